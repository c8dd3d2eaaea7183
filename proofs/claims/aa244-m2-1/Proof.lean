import JvmDerived
import JvmDerived.Pilot.@@N@@Statement
import JvmDerived.Pilot.@@N@@Code
set_option linter.unusedVariables false
set_option linter.unusedSimpArgs false
@@BLOCK:NumsL.lean.txt@@
namespace Jvm.RoadKit
open Sem ClassFile Op Lib Jvm.Stand Jvm.Free Jvm.LawKit
section Own
variable {p : Program} {l : Launch} {e : Env} {R : Room} {s : State} {m : MethodId} {args : Array Value} {below : List Frame} {meth : Method} {c : Code} {T : State} {locs : List Loc} {cells slots : Nat} {Z : State} {h h' : Heap} {Q : Option Value → Heap → List Loc → Prop} {kc ks : Nat}
/-- from the state S the run comes to an end of which Q holds -/
def OGo (p : Program) (e : Env) (below : List Frame) (s : State) (Q : Option Value → Heap → List Loc → Prop) (kc ks : Nat) (S : State) : Prop :=
  ∃ s₂ o, Steps p.tables e below S s₂ ∧ s₂.status = .running ∧ Ended s₂ below o ∧ ∃ v L, o = .returned v ∧ Q v s₂.heap L ∧ FrameEnd s o s₂ L kc ks
theorem OGo.on {C N : State} (st : ∀ t, Steps p.tables e below N t → Steps p.tables e below C t) (h : OGo p e below s Q kc ks N) : OGo p e below s Q kc ks C := by
  obtain ⟨s₂, o, h1, h2⟩ := h
  exact ⟨s₂, o, st _ h1, h2⟩
theorem OGo.fin (X : Stand p l e R s m args below meth c T locs cells slots) {v : Option Value} (hv : meth.sig.returnType = none → v = none) (hlocks : meth.locks = false) {C : State}
    (st : ∀ fs, (∀ (f : JFrame) (acts : List Action), f.method = m → f.locked = none → f.entered = [] → (doReturn e (T.setTop f) acts v).1 = T.setFrames fs) → Steps p.tables e below C (T.setFrames fs)) (hq : Q v T.heap locs) (hc : cells ≤ kc) (hs : slots ≤ ks) : OGo p e below s Q kc ks C := by
  obtain ⟨fs, hr, hrun, hended, hW, hsame⟩ := X.leave hv hlocks
  exact ⟨_, _, st fs hr, hrun, hended, v, locs, rfl, hq, ⟨_, rfl⟩, hW, hsame.mono hc hs⟩
theorem OGo.retN (X : Stand p l e R s m args below meth c T locs cells slots) (hx : p.tables.exec = Jvm.exec) {pc : Nat} {Ls : Array Slot} {z : Int32} {t : FieldType} {rest : List Value} (hret : meth.sig.returnType = some t) (hlocks : meth.locks = false) (ht : t = .boolean ∨ t = .byte ∨ t = .char ∨ t = .short)
    (hd : decode c.code pc = .ok (.ireturn, 1)) (hq : Q (some (.int (nar t z))) T.heap locs) (hc : cells ≤ kc) (hs : slots ≤ ks) : OGo p e below s Q kc ks (T.setTop (mkF m pc Ls (.int z :: rest))) :=
  OGo.fin X (fun h => by rw [hret] at h; cases h) hlocks (fun fs hr => Jvm.RoadKit.retN X hx hret ht hd hr) hq hc hs
theorem OGo.retI (X : Stand p l e R s m args below meth c T locs cells slots) (hx : p.tables.exec = Jvm.exec) {pc : Nat} {Ls : Array Slot} {z : Int32} {rest : List Value} (hret : meth.sig.returnType = some .int) (hlocks : meth.locks = false)
    (hd : decode c.code pc = .ok (.ireturn, 1)) (hq : Q (some (.int z)) T.heap locs) (hc : cells ≤ kc) (hs : slots ≤ ks) : OGo p e below s Q kc ks (T.setTop (mkF m pc Ls (.int z :: rest))) :=
  OGo.fin X (fun h => by rw [hret] at h; cases h) hlocks (fun fs hr => retOut X hx hret rfl (Or.inl ⟨rfl, Or.inl rfl, _, rfl⟩) hd hr) hq hc hs
theorem OGo.retJ (X : Stand p l e R s m args below meth c T locs cells slots) (hx : p.tables.exec = Jvm.exec) {pc : Nat} {Ls : Array Slot} {z : Int64} {rest : List Value} (hret : meth.sig.returnType = some .long) (hlocks : meth.locks = false)
    (hd : decode c.code pc = .ok (.lreturn, 1)) (hq : Q (some (.long z)) T.heap locs) (hc : cells ≤ kc) (hs : slots ≤ ks) : OGo p e below s Q kc ks (T.setTop (mkF m pc Ls (.long z :: rest))) :=
  OGo.fin X (fun h => by rw [hret] at h; cases h) hlocks (fun fs hr => retOut X hx hret rfl (Or.inr (Or.inl ⟨rfl, rfl, _, rfl⟩)) hd hr) hq hc hs
theorem OGo.retA (X : Stand p l e R s m args below meth c T locs cells slots) (hx : p.tables.exec = Jvm.exec) {pc : Nat} {Ls : Array Slot} {a : Addr} {t : FieldType} {rest : List Value} (hret : meth.sig.returnType = some t) (ht : t.isReference = true) (hn : narrow t (.ref a) = .ref a) (hlocks : meth.locks = false)
    (hd : decode c.code pc = .ok (.areturn, 1)) (hq : Q (some (.ref a)) T.heap locs) (hc : cells ≤ kc) (hs : slots ≤ ks) : OGo p e below s Q kc ks (T.setTop (mkF m pc Ls (.ref a :: rest))) :=
  OGo.fin X (fun h => by rw [hret] at h; cases h) hlocks (fun fs hr => retOut X hx hret hn (Or.inr (Or.inr (Or.inr (Or.inr ⟨rfl, ht, rfl⟩)))) hd hr) hq hc hs
theorem OGo.ret0 (X : Stand p l e R s m args below meth c T locs cells slots) (hx : p.tables.exec = Jvm.exec) {pc : Nat} {Ls : Array Slot} (hret : meth.sig.returnType = none) (hlocks : meth.locks = false)
    (hd : decode c.code pc = .ok (.return_, 1)) (hq : Q none T.heap locs) (hc : cells ≤ kc) (hs : slots ≤ ks) : OGo p e below s Q kc ks (T.setTop (mkF m pc Ls [])) :=
  OGo.fin X (fun _ => rfl) hlocks (fun fs hr => X.returnOut hx hret hd hr) hq hc hs
/-- what a body that writes nothing leaves -/
def OPure (n0 : Nat) (h0 : Heap) (r : Option Value) (v : Option Value) (h : Heap) (L : List Loc) : Prop := v = r ∧ Fr n0 L ∧ h = h0
theorem opI {n0 : Nat} {h0 : Heap} {x y : Int32} {L : List Loc} (q : x = y) (N : Fr n0 L) (E : h = h0) : OPure n0 h0 (some (.int y)) (some (.int x)) h L := ⟨by rw [q], N, E⟩
theorem opJ {n0 : Nat} {h0 : Heap} {x y : Int64} {L : List Loc} (q : x = y) (N : Fr n0 L) (E : h = h0) : OPure n0 h0 (some (.long y)) (some (.long x)) h L := ⟨by rw [q], N, E⟩
theorem own_nz1 : nar .boolean 1 = 1 := rfl
theorem own_nz0 : nar .boolean 0 = 0 := rfl
theorem own_irem {C : State} {x y : Int32} {g : JFrame} (X : Stand p l e R s m args below meth c T locs cells slots) (hx : p.tables.exec = Jvm.exec) (hg : g.method = m) {rest : List Value} (hd : decode c.code g.pc = .ok (.irem, 1)) (hs : g.stack = .int y :: .int x :: rest) (hy : y ≠ 0) :
    ∀ t, Steps p.tables e below (T.setTop { g with pc := g.pc + 1, stack := .int (x % y) :: rest }) t → Steps p.tables e below (T.setTop g) t := fun t k => iremM X hx hg hd hs hy k
/-! lcmp and the branch behind it -/
theorem own_lc (cd : ClassFile.Cond) (a b : Int64) : ifCond.holds cd (lcmpW a b) = (match cd with | .eq => decide (a = b) | .ne => !decide (a = b) | .lt => decide (a < b) | .ge => !decide (a < b) | .gt => decide (b < a) | .le => !decide (b < a)) := by
  have h1 : a = b ↔ a.toInt = b.toInt := (Int64.toInt_inj).symm
  by_cases g : a > b
  · have g' : b.toInt < a.toInt := Int64.lt_iff_toInt_lt.mp g
    have e1 : lcmpW a b = 1 := if_pos g
    have e2 : ¬ a = b := fun q => by rw [h1] at q; omega
    have e3 : ¬ a < b := fun q => by rw [Int64.lt_iff_toInt_lt] at q; omega
    have e4 : b < a := g
    rw [e1]; cases cd <;> simp [e2, e3, e4] <;> decide
  · by_cases q : a = b
    · have e1 : lcmpW a b = 0 := by rw [lcmpW, if_neg g, if_pos q]
      subst q
      have e3 : ¬ a < a := fun q => by rw [Int64.lt_iff_toInt_lt] at q; omega
      rw [e1]; cases cd <;> simp [e3] <;> decide
    · have e1 : lcmpW a b = -1 := by rw [lcmpW, if_neg g, if_neg q]
      have g1 : ¬ b < a := g
      have g2 : a < b := by rw [Int64.lt_iff_toInt_lt] at g1 ⊢; rw [h1] at q; omega
      rw [e1]; cases cd <;> simp [q, g1, g2] <;> decide
theorem lc_tlt {a b : Int64} (h : a < b) : ifCond.holds .lt (lcmpW a b) = true ∧ ifCond.holds .ge (lcmpW a b) = false ∧ ifCond.holds .gt (lcmpW b a) = true ∧ ifCond.holds .le (lcmpW b a) = false := by simp only [own_lc]; simp [h]
theorem lc_flt {a b : Int64} (h : ¬ a < b) : ifCond.holds .lt (lcmpW a b) = false ∧ ifCond.holds .ge (lcmpW a b) = true ∧ ifCond.holds .gt (lcmpW b a) = false ∧ ifCond.holds .le (lcmpW b a) = true := by simp only [own_lc]; simp [h]
theorem lc_teq {a b : Int64} (h : a = b) : ifCond.holds .eq (lcmpW a b) = true ∧ ifCond.holds .ne (lcmpW a b) = false := by simp only [own_lc]; simp [h]
theorem lc_feq {a b : Int64} (h : ¬ a = b) : ifCond.holds .eq (lcmpW a b) = false ∧ ifCond.holds .ne (lcmpW a b) = true := by simp only [own_lc]; simp [h]
theorem own_nm0 {a : Addr} : a ∉ ([] : List Addr) := fun q => nomatch q
theorem own_nm1 {a b : Addr} (h : a ≠ b) : a ∉ [b] := fun q => h (List.mem_singleton.mp q)
theorem own_nm2 {a b d : Addr} (h : a ≠ b) (h' : a ≠ d) : a ∉ [b, d] := fun q => (List.mem_cons.mp q).elim h fun q => h' (List.mem_singleton.mp q)
theorem own_nm3 {a b d f : Addr} (h : a ≠ b) (h' : a ≠ d) (h'' : a ≠ f) : a ∉ [b, d, f] := fun q => (List.mem_cons.mp q).elim h fun q => (own_nm2 h' h'') q
/-! arrays of numbers, known whole -/
/-- the array at a holds just the ints vs -/
def OAL (Z : State) (h : Heap) (a : Addr) (ty : FieldType) (vs : List Int32) : Prop := ∃ c : Cell, Arr Z h a c ty ∧ c.slots = (vs.map Value.int).toArray
/-- the array at a holds just the longs vs -/
def OAJ (Z : State) (h : Heap) (a : Addr) (vs : List Int64) : Prop := ∃ c : Cell, Arr Z h a c .long ∧ c.slots = (vs.map Value.long).toArray
/-- the place j lies inside and holds v -/
def OAt {α : Type} (vs : List α) (j : Int32) (v : α) : Prop := ¬ j < 0 ∧ vs[j.toNatClampNeg]? = some v
variable {a b : Addr} {ty : FieldType} {vs : List Int32} {us : List Int64} {ws : List Addr} {sl : Nat} {w : Value}
theorem OAL.lt (A : OAL Z h a ty vs) : a < h.size := by obtain ⟨c, A, -⟩ := A; exact A.lt
theorem OAJ.lt (A : OAJ Z h a us) : a < h.size := by obtain ⟨c, A, -⟩ := A; exact A.lt
theorem OAL.ext (A : OAL Z h a ty vs) (E : Ext h h') : OAL Z h' a ty vs := by obtain ⟨c, A, r⟩ := A; exact ⟨c, A.ext E, r⟩
theorem OAJ.ext (A : OAJ Z h a us) (E : Ext h h') : OAJ Z h' a us := by obtain ⟨c, A, r⟩ := A; exact ⟨c, A.ext E, r⟩
theorem OAL.keep (A : OAL Z h a ty vs) (K : Keep h h' ws) (q : a ∉ ws) : OAL Z h' a ty vs := by obtain ⟨c, A, r⟩ := A; exact ⟨c, ⟨K.2.1 a c A.1 q, A.2⟩, r⟩
theorem OAJ.keep (A : OAJ Z h a us) (K : Keep h h' ws) (q : a ∉ ws) : OAJ Z h' a us := by obtain ⟨c, A, r⟩ := A; exact ⟨c, ⟨K.2.1 a c A.1 q, A.2⟩, r⟩
theorem OAL.other (A : OAL Z h b ty vs) (W : Wr h h' a sl w) (q : b ≠ a) : OAL Z h' b ty vs := by obtain ⟨c, A, r⟩ := A; exact ⟨c, A.other W q, r⟩
theorem OAJ.other (A : OAJ Z h b us) (W : Wr h h' a sl w) (q : b ≠ a) : OAJ Z h' b us := by obtain ⟨c, A, r⟩ := A; exact ⟨c, A.other W q, r⟩
theorem own_slots (cl : Cell) (i : Nat) (v : Value) : (cl.setSlot i v).slots = cl.slots.setIfInBounds i v := rfl
theorem OAL.same (A : OAL Z h a ty vs) {i : Nat} {x : Int32} (W : Wr h h' a i (.int x)) : OAL Z h' a ty (vs.set i x) := by
  obtain ⟨c, A, r⟩ := A
  exact ⟨_, A.same W, by rw [own_slots, r]; simp [List.map_set]⟩
theorem OAJ.same (A : OAJ Z h a us) {i : Nat} {x : Int64} (W : Wr h h' a i (.long x)) : OAJ Z h' a (us.set i x) := by
  obtain ⟨c, A, r⟩ := A
  exact ⟨_, A.same W, by rw [own_slots, r]; simp [List.map_set]⟩
theorem OAL.new {cA : ClassId} {n : Int32} (A : Arr Z h a (newA cA ty n) ty) (q : defaultValue ty = .int 0) : OAL Z h a ty (List.replicate n.toNatClampNeg 0) := ⟨_, A, by
  show Array.replicate n.toNatClampNeg (defaultValue ty) = _
  rw [q]; simp⟩
theorem OAJ.new {cA : ClassId} {n : Int32} (A : Arr Z h a (newA cA .long n) .long) : OAJ Z h a (List.replicate n.toNatClampNeg 0) := ⟨_, A, by
  show Array.replicate n.toNatClampNeg (Value.long 0) = _
  simp⟩
theorem own_in {α : Type} {vs : List α} {f : α → Value} {j : Int32} {v : α} {cl : Cell} (r : cl.slots = (vs.map f).toArray) (q : OAt vs j v) : ¬ (j < 0 ∨ cl.slots.size ≤ j.toNatClampNeg) ∧ cl.slots[j.toNatClampNeg]? = some (f v) := by
  obtain ⟨q1, q2⟩ := q
  have hl := (List.getElem?_eq_some_iff.mp q2).1
  rw [r]
  refine ⟨fun z => z.elim q1 fun y => ?_, ?_⟩
  · simp at y; omega
  · simp [q2]
theorem OAL.baB (X : Stand p l e R s m args below meth c T locs cells slots) (hx : p.tables.exec = Jvm.exec) (hZ : Z.Warmed39 s.vm) (eT : T.heap = h) (A : OAL Z h a .byte vs) {j v : Int32} (q : OAt vs j v) {pc : Nat} {Ls : Array Slot} {rest : List Value} (hd : decode c.code pc = .ok (.baload, 1)) {t : State}
    (k : Steps p.tables e below (T.setTop (mkF m (pc + 1) Ls (.int v :: rest))) t) : Steps p.tables e below (T.setTop (mkF m pc Ls (.int j :: .ref a :: rest))) t := by
  obtain ⟨cl, A, r⟩ := A
  exact X.baloadBytes hx (j := j) (v := .int v) (by rw [eT]; exact A.1) (State.isArrayOf_alike hZ.alike A.2.1) A.2.2 (own_in r q).1 (own_in r q).2 (g := mkF m pc Ls (.int j :: .ref a :: rest)) rfl rfl hd _ k
theorem OAL.baZ (X : Stand p l e R s m args below meth c T locs cells slots) (hx : p.tables.exec = Jvm.exec) (hZ : Z.Warmed39 s.vm) (eT : T.heap = h) (A : OAL Z h a .boolean vs) {j v : Int32} (q : OAt vs j v) {pc : Nat} {Ls : Array Slot} {rest : List Value} (hd : decode c.code pc = .ok (.baload, 1)) {t : State}
    (k : Steps p.tables e below (T.setTop (mkF m (pc + 1) Ls (.int v :: rest))) t) : Steps p.tables e below (T.setTop (mkF m pc Ls (.int j :: .ref a :: rest))) t := by
  obtain ⟨cl, A, r⟩ := A
  exact X.baloadBooleans hx (j := j) (v := .int v) (by rw [eT]; exact A.1) (State.isArrayOf_alike hZ.alike A.2.1) A.2.2 (own_in r q).1 (own_in r q).2 (g := mkF m pc Ls (.int j :: .ref a :: rest)) rfl rfl hd _ k
theorem OAL.ia (X : Stand p l e R s m args below meth c T locs cells slots) (hx : p.tables.exec = Jvm.exec) (hZ : Z.Warmed39 s.vm) (eT : T.heap = h) (A : OAL Z h a .int vs) {j v : Int32} (q : OAt vs j v) {pc : Nat} {Ls : Array Slot} {rest : List Value} (hd : decode c.code pc = .ok (.iaload, 1)) {t : State}
    (k : Steps p.tables e below (T.setTop (mkF m (pc + 1) Ls (.int v :: rest))) t) : Steps p.tables e below (T.setTop (mkF m pc Ls (.int j :: .ref a :: rest))) t := by
  obtain ⟨cl, A, r⟩ := A
  exact X.iaload hx (j := j) (v := .int v) (by rw [eT]; exact A.1) (State.isArrayOf_alike hZ.alike A.2.1) A.2.2 (own_in r q).1 (own_in r q).2 (g := mkF m pc Ls (.int j :: .ref a :: rest)) rfl rfl hd _ k
theorem OAJ.la (X : Stand p l e R s m args below meth c T locs cells slots) (hx : p.tables.exec = Jvm.exec) (hZ : Z.Warmed39 s.vm) (eT : T.heap = h) (A : OAJ Z h a us) {j : Int32} {v : Int64} (q : OAt us j v) {pc : Nat} {Ls : Array Slot} {rest : List Value} (hd : decode c.code pc = .ok (.laload, 1)) {t : State}
    (k : Steps p.tables e below (T.setTop (mkF m (pc + 1) Ls (.long v :: rest))) t) : Steps p.tables e below (T.setTop (mkF m pc Ls (.int j :: .ref a :: rest))) t := by
  obtain ⟨cl, A, r⟩ := A
  exact X.laload hx (j := j) (v := .long v) (by rw [eT]; exact A.1) (State.isArrayOf_alike hZ.alike A.2.1) A.2.2 (own_in r q).1 (own_in r q).2 (g := mkF m pc Ls (.int j :: .ref a :: rest)) rfl rfl hd _ k
theorem OAL.len (X : Stand p l e R s m args below meth c T locs cells slots) (hx : p.tables.exec = Jvm.exec) (hZ : Z.Warmed39 s.vm) (eT : T.heap = h) (A : OAL Z h a ty vs) {n : Int32} (q : vs.length.toInt32 = n) {pc : Nat} {Ls : Array Slot} {rest : List Value} (hd : decode c.code pc = .ok (.arraylength, 1)) {t : State}
    (k : Steps p.tables e below (T.setTop (mkF m (pc + 1) Ls (.int n :: rest))) t) : Steps p.tables e below (T.setTop (mkF m pc Ls (.ref a :: rest))) t := by
  obtain ⟨cl, A, r⟩ := A
  have z : cl.slots.size = vs.length := by rw [r]; simp
  exact X.arraylength hx (by rw [eT]; exact A.1) (State.isArrayOf_alike hZ.alike A.2.1) (g := mkF m pc Ls (.ref a :: rest)) rfl rfl hd _ (by rw [z, q]; exact k)
theorem OAJ.len (X : Stand p l e R s m args below meth c T locs cells slots) (hx : p.tables.exec = Jvm.exec) (hZ : Z.Warmed39 s.vm) (eT : T.heap = h) (A : OAJ Z h a us) {n : Int32} (q : us.length.toInt32 = n) {pc : Nat} {Ls : Array Slot} {rest : List Value} (hd : decode c.code pc = .ok (.arraylength, 1)) {t : State}
    (k : Steps p.tables e below (T.setTop (mkF m (pc + 1) Ls (.int n :: rest))) t) : Steps p.tables e below (T.setTop (mkF m pc Ls (.ref a :: rest))) t := by
  obtain ⟨cl, A, r⟩ := A
  have z : cl.slots.size = us.length := by rw [r]; simp
  exact X.arraylength hx (by rw [eT]; exact A.1) (State.isArrayOf_alike hZ.alike A.2.1) (g := mkF m pc Ls (.ref a :: rest)) rfl rfl hd _ (by rw [z, q]; exact k)
theorem own_into {α : Type} {vs : List α} {f : α → Value} {j : Int32} {cl : Cell} (r : cl.slots = (vs.map f).toArray) (q1 : ¬ j < 0) (q2 : j.toNatClampNeg < vs.length) : ¬ (j < 0 ∨ cl.slots.size ≤ j.toNatClampNeg) := by
  rw [r]
  exact fun z => z.elim q1 fun y => by simp at y; omega
theorem OAL.stB (X : Stand p l e R s m args below meth c T locs cells slots) (hx : p.tables.exec = Jvm.exec) (hZ : Z.Warmed39 s.vm) (eT : T.heap = h) (A : OAL Z h a .byte vs) {j x : Int32} (q1 : ¬ j < 0) (q2 : j.toNatClampNeg < vs.length) {pc : Nat} {Ls : Array Slot} {rest : List Value} (hd : decode c.code pc = .ok (.bastore, 1)) :
    ∃ T' h', Stand p l e R s m args below meth c T' (locs ++ [⟨a, j.toNatClampNeg⟩]) cells slots ∧ T'.heap = h' ∧ Wr h h' a j.toNatClampNeg (.int (nar .byte x)) ∧ OAL Z h' a .byte (vs.set j.toNatClampNeg (nar .byte x)) ∧ ∀ t, Steps p.tables e below (T'.setTop (mkF m (pc + 1) Ls rest)) t → Steps p.tables e below (T.setTop (mkF m pc Ls (.int x :: .int j :: .ref a :: rest))) t := by
  obtain ⟨cl, A', r⟩ := A
  obtain ⟨T', h', X', e', W', st⟩ := Jvm.RoadKit.stB X hx hZ eT A' (j := j) (x := x) (own_into r q1 q2) (g := mkF m pc Ls (.int x :: .int j :: .ref a :: rest)) rfl rfl hd
  exact ⟨T', h', X', e', W', OAL.same ⟨cl, A', r⟩ W', st⟩
theorem OAL.stZ (X : Stand p l e R s m args below meth c T locs cells slots) (hx : p.tables.exec = Jvm.exec) (hZ : Z.Warmed39 s.vm) (eT : T.heap = h) (A : OAL Z h a .boolean vs) {j x : Int32} (q1 : ¬ j < 0) (q2 : j.toNatClampNeg < vs.length) {pc : Nat} {Ls : Array Slot} {rest : List Value} (hd : decode c.code pc = .ok (.bastore, 1)) :
    ∃ T' h', Stand p l e R s m args below meth c T' (locs ++ [⟨a, j.toNatClampNeg⟩]) cells slots ∧ T'.heap = h' ∧ Wr h h' a j.toNatClampNeg (.int (nar .boolean x)) ∧ OAL Z h' a .boolean (vs.set j.toNatClampNeg (nar .boolean x)) ∧ ∀ t, Steps p.tables e below (T'.setTop (mkF m (pc + 1) Ls rest)) t → Steps p.tables e below (T.setTop (mkF m pc Ls (.int x :: .int j :: .ref a :: rest))) t := by
  obtain ⟨cl, A', r⟩ := A
  obtain ⟨T', h', X', e', W', st⟩ := Jvm.RoadKit.stZ X hx hZ eT A' (j := j) (x := x) (own_into r q1 q2) (g := mkF m pc Ls (.int x :: .int j :: .ref a :: rest)) rfl rfl hd
  exact ⟨T', h', X', e', W', OAL.same ⟨cl, A', r⟩ W', st⟩
theorem OAL.stI (X : Stand p l e R s m args below meth c T locs cells slots) (hx : p.tables.exec = Jvm.exec) (hZ : Z.Warmed39 s.vm) (eT : T.heap = h) (A : OAL Z h a .int vs) {j x : Int32} (q1 : ¬ j < 0) (q2 : j.toNatClampNeg < vs.length) {pc : Nat} {Ls : Array Slot} {rest : List Value} (hd : decode c.code pc = .ok (.iastore, 1)) :
    ∃ T' h', Stand p l e R s m args below meth c T' (locs ++ [⟨a, j.toNatClampNeg⟩]) cells slots ∧ T'.heap = h' ∧ Wr h h' a j.toNatClampNeg (.int x) ∧ OAL Z h' a .int (vs.set j.toNatClampNeg x) ∧ ∀ t, Steps p.tables e below (T'.setTop (mkF m (pc + 1) Ls rest)) t → Steps p.tables e below (T.setTop (mkF m pc Ls (.int x :: .int j :: .ref a :: rest))) t := by
  obtain ⟨cl, A', r⟩ := A
  obtain ⟨T', h', X', e', W', st⟩ := Jvm.RoadKit.stI X hx hZ eT A' (j := j) (x := x) (own_into r q1 q2) (g := mkF m pc Ls (.int x :: .int j :: .ref a :: rest)) rfl rfl hd
  exact ⟨T', h', X', e', W', OAL.same ⟨cl, A', r⟩ W', st⟩
theorem OAJ.stJ (X : Stand p l e R s m args below meth c T locs cells slots) (hx : p.tables.exec = Jvm.exec) (hZ : Z.Warmed39 s.vm) (eT : T.heap = h) (A : OAJ Z h a us) {j : Int32} {x : Int64} (q1 : ¬ j < 0) (q2 : j.toNatClampNeg < us.length) {pc : Nat} {Ls : Array Slot} {rest : List Value} (hd : decode c.code pc = .ok (.lastore, 1)) :
    ∃ T' h', Stand p l e R s m args below meth c T' (locs ++ [⟨a, j.toNatClampNeg⟩]) cells slots ∧ T'.heap = h' ∧ Wr h h' a j.toNatClampNeg (.long x) ∧ OAJ Z h' a (us.set j.toNatClampNeg x) ∧ ∀ t, Steps p.tables e below (T'.setTop (mkF m (pc + 1) Ls rest)) t → Steps p.tables e below (T.setTop (mkF m pc Ls (.long x :: .int j :: .ref a :: rest))) t := by
  obtain ⟨cl, A', r⟩ := A
  obtain ⟨T', h', X', e', W', st⟩ := Jvm.RoadKit.stJ X hx hZ eT A' (j := j) (x := x) (own_into r q1 q2) (g := mkF m pc Ls (.long x :: .int j :: .ref a :: rest)) rfl rfl hd
  exact ⟨T', h', X', e', W', OAJ.same ⟨cl, A', r⟩ W', st⟩
end Own
end Jvm.RoadKit
namespace Jvm.Pilot.@@N@@
open Jvm Jvm.ClassFile Sem Op Lib Jvm.Free Jvm.Stand Jvm.LawKit Jvm.RoadKit Bundle Jvm.Pilot.@@N@@.Jvm.D
/-! numbers without sign -/
def n32 (y : Int32) : Nat := y.toBitVec.toNat
def n64 (x : Int64) : Nat := x.toBitVec.toNat
theorem n32_lt (y : Int32) : n32 y < 2 ^ 32 := y.toBitVec.isLt
theorem n64_lt (x : Int64) : n64 x < 2 ^ 64 := x.toBitVec.isLt
theorem n64_inj {x y : Int64} (h : n64 x = n64 y) : x = y := Int64.toBitVec_inj.mp (BitVec.eq_of_toNat_eq h)
theorem n32_inj {x y : Int32} (h : n32 x = n32 y) : x = y := Int32.toBitVec_inj.mp (BitVec.eq_of_toNat_eq h)
theorem own_b8 (z : Int8) : n64 (z.toInt32.toInt8.toInt32.toInt64 &&& 255) = z.toBitVec.toNat := by
  have k : ∀ n : Fin 256, n64 ((Int8.ofBitVec (BitVec.ofFin n)).toInt32.toInt8.toInt32.toInt64 &&& 255) = n.val := by decide +kernel
  exact k z.toBitVec.toFin
theorem n8_of32 (y : Int32) : y.toInt8.toBitVec.toNat = n32 y % 256 := by
  show (y.toBitVec.signExtend 8).toNat = y.toBitVec.toNat % 256
  rw [BitVec.signExtend_eq_setWidth_of_le _ (by decide), BitVec.toNat_setWidth]
theorem own_byte (y : Int32) : n64 (y.toInt8.toInt32.toInt8.toInt32.toInt64 &&& 255) = n32 y % 256 := by rw [own_b8, n8_of32]
theorem n32_of64 (x : Int64) : n32 x.toInt32 = n64 x % 2 ^ 32 := by
  show (x.toBitVec.signExtend 32).toNat = x.toBitVec.toNat % 2 ^ 32
  rw [BitVec.signExtend_eq_setWidth_of_le _ (by decide), BitVec.toNat_setWidth]
theorem n32_shr (x : Int32) {n : UInt32} {k : Nat} (hn : n.toNat = k) (hk : k < 32) : n32 (x.toUInt32 >>> n).toInt32 = n32 x / 2 ^ k := by
  show (x.toUInt32 >>> n).toNat = x.toUInt32.toNat / 2 ^ k
  rw [UInt32.toNat_shiftRight, hn, Nat.mod_eq_of_lt hk, Nat.shiftRight_eq_div_pow]
theorem n64_shr (x : Int64) {n : UInt64} {k : Nat} (hn : n.toNat = k) (hk : k < 64) : n64 (x.toUInt64 >>> n).toInt64 = n64 x / 2 ^ k := by
  show (x.toUInt64 >>> n).toNat = x.toUInt64.toNat / 2 ^ k
  rw [UInt64.toNat_shiftRight, hn, Nat.mod_eq_of_lt hk, Nat.shiftRight_eq_div_pow]
theorem n64_shl (x n : Int64) {k : Nat} (hn : (n.toBitVec.smod 64).toNat = k) (h : n64 x * 2 ^ k < 2 ^ 64) : n64 (x <<< n) = n64 x * 2 ^ k := by
  show (x.toBitVec <<< (n.toBitVec.smod 64)).toNat = x.toBitVec.toNat * 2 ^ k
  rw [BitVec.shiftLeft_eq', hn, BitVec.toNat_shiftLeft, Nat.shiftLeft_eq]
  exact Nat.mod_eq_of_lt h
theorem n64_or {x y : Int64} {k q : Nat} (hx : n64 x < 2 ^ k) (hy : n64 y = q * 2 ^ k) : n64 (x ||| y) = n64 x + n64 y := by
  show (x.toBitVec ||| y.toBitVec).toNat = _
  rw [BitVec.toNat_or]
  have e : y.toBitVec.toNat = q <<< k := by rw [Nat.shiftLeft_eq]; exact hy
  have f := Nat.shiftLeft_add_eq_or_of_lt hx q
  rw [Nat.or_comm, e]
  show q <<< k ||| n64 x = n64 x + n64 y
  rw [← f, hy, Nat.shiftLeft_eq, Nat.add_comm]
theorem n64_or' {x y : Int64} {k q : Nat} (hx : n64 x < 2 ^ k) (hy : n64 y = q * 2 ^ k) : n64 (y ||| x) = n64 y + n64 x := by
  have e : y ||| x = x ||| y := Int64.or_comm y x
  rw [e, n64_or hx hy, Nat.add_comm]

def own_key (p s q o : Int32) : Int64 := if p &&& 4 = 0 then (if p &&& 2 = 0 then (if p &&& 1 = 0 then 0 else s.toInt64) else (((if p &&& 1 = 0 then 0 else s.toInt64) <<< ((32 : Int32) &&& 0x3f).toInt64) ||| q.toInt64))
  else (((if p &&& 2 = 0 then (if p &&& 1 = 0 then 0 else s.toInt64) else (((if p &&& 1 = 0 then 0 else s.toInt64) <<< ((32 : Int32) &&& 0x3f).toInt64) ||| q.toInt64)) <<< ((32 : Int32) &&& 0x3f).toInt64) ||| o.toInt64)
theorem own_n64 {s : Int32} (h : 0 ≤ s.toInt) : (n64 s.toInt64 : Int) = s.toInt ∧ n64 s.toInt64 < 2 ^ 31 := by
  have e : s.toInt64.toInt = s.toInt := Jvm.Kit.i64_of_i32 s
  have e1 : s.toInt64.toInt = (s.toInt64.toBitVec).toInt := rfl
  have l := s.toInt_lt
  have u := n64_lt s.toInt64
  rw [e1, BitVec.toInt_eq_toNat_cond] at e
  unfold n64 at *
  split at e <;> omega
theorem own_i64 {x : Int64} (h : n64 x < 2 ^ 63) : x.toInt = (n64 x : Int) := by
  have e1 : x.toInt = (x.toBitVec).toInt := rfl
  rw [e1, BitVec.toInt_eq_toNat_cond]
  unfold n64 at *
  split <;> omega
theorem own_cat {s q : Int32} (hs : 0 ≤ s.toInt) (hq : 0 ≤ q.toInt) : (s.toInt64 <<< ((32 : Int32) &&& 0x3f).toInt64) ||| q.toInt64 = s.toInt64 * 4294967296 + q.toInt64 := by
  have a := own_n64 hs
  have b := own_n64 hq
  have s1 := n64_shl s.toInt64 ((32 : Int32) &&& 0x3f).toInt64 (k := 32) (by decide) (by omega)
  have o1 := n64_or' (k := 32) (x := q.toInt64) (y := s.toInt64 <<< ((32 : Int32) &&& 0x3f).toInt64) (by omega) s1
  have k : (4294967296 : Int64).toInt = 4294967296 := by decide
  have e1 := Jvm.Kit.i64_of_i32 s
  have e2 := Jvm.Kit.i64_of_i32 q
  rw [← Int64.toInt_inj]
  have m : (s.toInt64 * 4294967296).toInt = s.toInt * 4294967296 := by
    rw [Jvm.Kit.i64_mul (by rw [e1, k]; omega) (by rw [e1, k]; omega), e1, k]
  rw [own_i64 (by omega), Jvm.Kit.i64_add (by rw [m, e2]; omega) (by rw [m, e2]; omega), m, e2, o1, s1]
  omega
theorem own_zor (x : Int64) : (((0 : Int64) <<< ((32 : Int32) &&& 0x3f).toInt64) ||| x) = x := by
  have e : ((0 : Int64) <<< ((32 : Int32) &&& 0x3f).toInt64) = 0 := by decide
  rw [e]; exact Int64.zero_or
theorem own_p1 (s q o : Int32) : own_key 1 s q o = s.toInt64 := rfl
theorem own_p2 (s q o : Int32) : own_key 2 s q o = q.toInt64 := own_zor _
theorem own_p4 (s q o : Int32) : own_key 4 s q o = o.toInt64 := own_zor _
theorem own_p3 {s q : Int32} (o : Int32) (hs : 0 ≤ s.toInt) (hq : 0 ≤ q.toInt) : own_key 3 s q o = s.toInt64 * 4294967296 + q.toInt64 := own_cat hs hq
theorem own_p5 {s o : Int32} (q : Int32) (hs : 0 ≤ s.toInt) (ho : 0 ≤ o.toInt) : own_key 5 s q o = s.toInt64 * 4294967296 + o.toInt64 := own_cat hs ho
theorem own_p6 (s : Int32) {q o : Int32} (hq : 0 ≤ q.toInt) (ho : 0 ≤ o.toInt) : own_key 6 s q o = q.toInt64 * 4294967296 + o.toInt64 := by
  have e : own_key 6 s q o = (((((0 : Int64) <<< ((32 : Int32) &&& 0x3f).toInt64) ||| q.toInt64) <<< ((32 : Int32) &&& 0x3f).toInt64) ||| o.toInt64) := rfl
  rw [e, own_zor]; exact own_cat hq ho
theorem own_mask (a : Int32) : 0 ≤ (a &&& 2147483647).toInt := by
  rw [Jvm.Kit.i32_mask a 2147483647 (k := 31) (by decide) (by decide)]; exact Int.emod_nonneg _ (by decide)
def Q_own_fill (Z : State) (ra : Addr) (vx : Int64) (h0 : Heap) (n0 : Nat) (v : Option Value) (h : Heap) (L : List Loc) : Prop := v = none ∧ Fr n0 L ∧ Keep h0 h [ra]
theorem own_pn0 : plainName "java/util/Arrays" = true := by first | (simp [plainName, overriddenIn]; done) | decide +kernel
theorem ef_own_fill (m : MethodId) (x0 : Addr) (x1 : Int64) : entryFrame m #[(.ref x0), (.long x1)] 5 = mkF m 0 #[.val (.ref x0), .val (.long x1), .second, .unset, .unset] [] := by first | (simp [entryFrame, mkF, argsToLocals, Value.category]; done) | rfl
theorem d5_0 : decode jdk_65_method_101_code 0 = .ok (.iconst 0, 1) := by decide +kernel
theorem d5_1 : decode jdk_65_method_101_code 1 = .ok (.istore_n 3, 1) := by decide +kernel
theorem d5_2 : decode jdk_65_method_101_code 2 = .ok (.aload_n 0, 1) := by decide +kernel
theorem d5_3 : decode jdk_65_method_101_code 3 = .ok (.arraylength, 1) := by decide +kernel
theorem d5_4 : decode jdk_65_method_101_code 4 = .ok (.istore 4, 2) := by decide +kernel
theorem d5_6 : decode jdk_65_method_101_code 6 = .ok (.iload_n 3, 1) := by decide +kernel
theorem d5_7 : decode jdk_65_method_101_code 7 = .ok (.iload 4, 2) := by decide +kernel
theorem d5_9 : decode jdk_65_method_101_code 9 = .ok (.if_icmp .ge 13, 3) := by decide +kernel
theorem d5_12 : decode jdk_65_method_101_code 12 = .ok (.aload_n 0, 1) := by decide +kernel
theorem d5_13 : decode jdk_65_method_101_code 13 = .ok (.iload_n 3, 1) := by decide +kernel
theorem d5_14 : decode jdk_65_method_101_code 14 = .ok (.lload_n 1, 1) := by decide +kernel
theorem d5_15 : decode jdk_65_method_101_code 15 = .ok (.lastore, 1) := by decide +kernel
theorem d5_16 : decode jdk_65_method_101_code 16 = .ok (.iinc 3 1, 3) := by decide +kernel
theorem d5_19 : decode jdk_65_method_101_code 19 = .ok (.goto (-13), 3) := by decide +kernel
theorem d5_22 : decode jdk_65_method_101_code 22 = .ok (.return_, 1) := by decide +kernel
set_option maxRecDepth 65536 in
set_option maxHeartbeats 40000000 in
theorem own_fill (l : Launch) (Z : State) (a0 : Array Value) (hw : ∀ d ∈ tables_1, d.before a0 Z = true) (ws : List Jvm.Cond) (ra : Addr) (vx : Int64) (h0 : Heap) (n0 : Nat) (Z0 : n0 ≤ h0.size) (g_ra : n0 ≤ ra) (A0 : OAJ Z h0 ra [(0 : Int64), (0 : Int64), (0 : Int64), (0 : Int64), (0 : Int64), (0 : Int64), (0 : Int64), (0 : Int64), (0 : Int64), (0 : Int64), (0 : Int64), (0 : Int64), (0 : Int64), (0 : Int64), (0 : Int64), (0 : Int64)]) :
    MetFree l (⟨"java/util/Arrays", "fill", "([JJ)V"⟩ : MethodName) (head1 (Jvm.Cond.code (⟨"java/util/Arrays", "fill", "([JJ)V"⟩ : MethodName) jdk_65_method_101_code 5 none :: ws) ({ frames := 0, cells := 0, slots := 0, locals := 0 } : Room)) (fun a U => a = #[(.ref ra), (.long vx)] ∧ Z.Warmed39 U.vm ∧ U.heap = h0) (fun _ _ _ _ _ => True) (fun _ U o U' => ∃ v L, o = .returned v ∧ (Q_own_fill Z ra vx h0 n0) v U'.heap L ∧ FrameEnd U o U' L ({ frames := 0, cells := 0, slots := 0, locals := 0 } : Room).cells ({ frames := 0, cells := 0, slots := 0, locals := 0 } : Room).slots) := by
  refine MetFree.of_bodySF (plainFor_of_name own_pn0) hisR ?_
  intro p e s m args below meth c s₁ Bd hml0 hP hK
  obtain ⟨rfl, hZ, hh⟩ := hP
  have hx := Bd.exec
  have hby := Bd.bytes
  have hret := Bd.returns
  have hlk : meth.locks = false := Bd.notSynchronized
  have hml : c.maxLocals = 5 := hml0
  have hown : s.vm.findClass "java/util/Arrays" = some m.cls := findClass_of_methodNamed Bd.named
  have hnm := (name_of_methodNamed Bd.named Bd.method).1
  have X0 : Stand p l e ({ frames := 0, cells := 0, slots := 0, locals := 0 } : Room) s m #[(.ref ra), (.long vx)] below meth c s₁ [] 0 0 := Stand.of_body Bd
  have e0 : s₁.heap = h0 := by rw [← hh, Bd.state]; rfl
  have N0 := Fr.nil n0
  have pre0 : ∀ t, Steps p.tables e below (s₁.setTop (mkF m 0 #[.val (.ref ra), .val (.long vx), .second, .unset, .unset] [])) t → Steps p.tables e below (s₁.setTop (entryFrame m #[(.ref ra), (.long vx)] 5)) t := fun t k => castTop (ef_own_fill m ra vx) k
  have K0 : Keep h0 h0 [ra] := Keep.refl _ _
  show OGo p e below s (Q_own_fill Z ra vx h0 n0) ({ frames := 0, cells := 0, slots := 0, locals := 0 } : Room).cells ({ frames := 0, cells := 0, slots := 0, locals := 0 } : Room).slots (s₁.setTop (entryFrame m #[(.ref ra), (.long vx)] 5))
  refine OGo.on pre0 ?_
  show OGo p e below s _ _ _ (s₁.setTop (mkF m 0 #[.val (.ref ra), .val (.long vx), .second, .unset, .unset] []))
  refine OGo.on (fun t k => XS.iconst X0.here hx rfl (hb hby d5_0) k) ?_
  show OGo p e below s _ _ _ (s₁.setTop (mkF m 1 #[.val (.ref ra), .val (.long vx), .second, .unset, .unset] [(.int (0 : Int32))]))
  refine OGo.on (fun t k => XS.istoreN X0.here hx rfl (hb hby d5_1) rfl (l' := #[.val (.ref ra), .val (.long vx), .second, .val (.int (0 : Int32)), .unset]) rfl k) ?_
  show OGo p e below s _ _ _ (s₁.setTop (mkF m 2 #[.val (.ref ra), .val (.long vx), .second, .val (.int (0 : Int32)), .unset] []))
  refine OGo.on (fun t k => XS.aloadN X0.here hx rfl (hb hby d5_2) rfl rfl k) ?_
  show OGo p e below s _ _ _ (s₁.setTop (mkF m 3 #[.val (.ref ra), .val (.long vx), .second, .val (.int (0 : Int32)), .unset] [(.ref ra)]))
  refine OGo.on (fun t k => OAJ.len X0 hx hZ e0 A0 rfl (hb hby d5_3) k) ?_
  show OGo p e below s _ _ _ (s₁.setTop (mkF m 4 #[.val (.ref ra), .val (.long vx), .second, .val (.int (0 : Int32)), .unset] [(.int (16 : Int32))]))
  refine OGo.on (fun t k => XS.istore X0.here hx rfl (hb hby d5_4) rfl (l' := #[.val (.ref ra), .val (.long vx), .second, .val (.int (0 : Int32)), .val (.int (16 : Int32))]) rfl k) ?_
  show OGo p e below s _ _ _ (s₁.setTop (mkF m 6 #[.val (.ref ra), .val (.long vx), .second, .val (.int (0 : Int32)), .val (.int (16 : Int32))] []))
  refine OGo.on (fun t k => XS.iloadN X0.here hx rfl (hb hby d5_6) rfl k) ?_
  show OGo p e below s _ _ _ (s₁.setTop (mkF m 7 #[.val (.ref ra), .val (.long vx), .second, .val (.int (0 : Int32)), .val (.int (16 : Int32))] [(.int (0 : Int32))]))
  refine OGo.on (fun t k => XS.iload X0.here hx rfl (hb hby d5_7) rfl k) ?_
  show OGo p e below s _ _ _ (s₁.setTop (mkF m 9 #[.val (.ref ra), .val (.long vx), .second, .val (.int (0 : Int32)), .val (.int (16 : Int32))] [(.int (16 : Int32)), (.int (0 : Int32))]))
  refine OGo.on (fun t k => XS.icmpNo X0.here hx rfl (hb hby d5_9) rfl (tlt (by decide)).2.1 k) ?_
  show OGo p e below s _ _ _ (s₁.setTop (mkF m 12 #[.val (.ref ra), .val (.long vx), .second, .val (.int (0 : Int32)), .val (.int (16 : Int32))] []))
  refine OGo.on (fun t k => XS.aloadN X0.here hx rfl (hb hby d5_12) rfl rfl k) ?_
  show OGo p e below s _ _ _ (s₁.setTop (mkF m 13 #[.val (.ref ra), .val (.long vx), .second, .val (.int (0 : Int32)), .val (.int (16 : Int32))] [(.ref ra)]))
  refine OGo.on (fun t k => XS.iloadN X0.here hx rfl (hb hby d5_13) rfl k) ?_
  show OGo p e below s _ _ _ (s₁.setTop (mkF m 14 #[.val (.ref ra), .val (.long vx), .second, .val (.int (0 : Int32)), .val (.int (16 : Int32))] [(.int (0 : Int32)), (.ref ra)]))
  refine OGo.on (fun t k => XS.lloadN X0.here hx rfl (hb hby d5_14) rfl k) ?_
  show OGo p e below s _ _ _ (s₁.setTop (mkF m 15 #[.val (.ref ra), .val (.long vx), .second, .val (.int (0 : Int32)), .val (.int (16 : Int32))] [(.long vx), (.int (0 : Int32)), (.ref ra)]))
  obtain ⟨T1, h1, X1, e1, W1, A1, st1⟩ := OAJ.stJ X0 hx hZ e0 A0 (j := (0 : Int32)) (x := vx) (by decide) (by decide : 0 < 16) (Ls := #[.val (.ref ra), .val (.long vx), .second, .val (.int (0 : Int32)), .val (.int (16 : Int32))]) (rest := []) (hb hby d5_15)
  have Z2 : n0 ≤ h1.size := Nat.le_trans Z0 (Nat.le_of_eq W1.size.symm)
  have N3 := Fr.snoc X1 N0 g_ra
  have K4 : Keep h0 h1 [ra] := K0.wr W1 (Or.inl (List.mem_of_getElem? (i := 0) rfl))
  have V1 : OAJ Z h1 ra [vx, (0 : Int64), (0 : Int64), (0 : Int64), (0 : Int64), (0 : Int64), (0 : Int64), (0 : Int64), (0 : Int64), (0 : Int64), (0 : Int64), (0 : Int64), (0 : Int64), (0 : Int64), (0 : Int64), (0 : Int64)] := A1
  refine OGo.on st1 ?_
  show OGo p e below s _ _ _ (T1.setTop (mkF m 16 #[.val (.ref ra), .val (.long vx), .second, .val (.int (0 : Int32)), .val (.int (16 : Int32))] []))
  refine OGo.on (fun t k => XS.iinc X1.here hx rfl (hb hby d5_16) rfl (l' := #[.val (.ref ra), .val (.long vx), .second, .val (.int (1 : Int32)), .val (.int (16 : Int32))]) rfl k) ?_
  show OGo p e below s _ _ _ (T1.setTop (mkF m 19 #[.val (.ref ra), .val (.long vx), .second, .val (.int (1 : Int32)), .val (.int (16 : Int32))] []))
  refine OGo.on (fun t k => XS.goto X1.here hx rfl (pc0 := 19) (pc' := 6) rfl (hb hby d5_19) (by decide) (by decide) k) ?_
  show OGo p e below s _ _ _ (T1.setTop (mkF m 6 #[.val (.ref ra), .val (.long vx), .second, .val (.int (1 : Int32)), .val (.int (16 : Int32))] []))
  refine OGo.on (fun t k => XS.iloadN X1.here hx rfl (hb hby d5_6) rfl k) ?_
  show OGo p e below s _ _ _ (T1.setTop (mkF m 7 #[.val (.ref ra), .val (.long vx), .second, .val (.int (1 : Int32)), .val (.int (16 : Int32))] [(.int (1 : Int32))]))
  refine OGo.on (fun t k => XS.iload X1.here hx rfl (hb hby d5_7) rfl k) ?_
  show OGo p e below s _ _ _ (T1.setTop (mkF m 9 #[.val (.ref ra), .val (.long vx), .second, .val (.int (1 : Int32)), .val (.int (16 : Int32))] [(.int (16 : Int32)), (.int (1 : Int32))]))
  refine OGo.on (fun t k => XS.icmpNo X1.here hx rfl (hb hby d5_9) rfl (tlt (by decide)).2.1 k) ?_
  show OGo p e below s _ _ _ (T1.setTop (mkF m 12 #[.val (.ref ra), .val (.long vx), .second, .val (.int (1 : Int32)), .val (.int (16 : Int32))] []))
  refine OGo.on (fun t k => XS.aloadN X1.here hx rfl (hb hby d5_12) rfl rfl k) ?_
  show OGo p e below s _ _ _ (T1.setTop (mkF m 13 #[.val (.ref ra), .val (.long vx), .second, .val (.int (1 : Int32)), .val (.int (16 : Int32))] [(.ref ra)]))
  refine OGo.on (fun t k => XS.iloadN X1.here hx rfl (hb hby d5_13) rfl k) ?_
  show OGo p e below s _ _ _ (T1.setTop (mkF m 14 #[.val (.ref ra), .val (.long vx), .second, .val (.int (1 : Int32)), .val (.int (16 : Int32))] [(.int (1 : Int32)), (.ref ra)]))
  refine OGo.on (fun t k => XS.lloadN X1.here hx rfl (hb hby d5_14) rfl k) ?_
  show OGo p e below s _ _ _ (T1.setTop (mkF m 15 #[.val (.ref ra), .val (.long vx), .second, .val (.int (1 : Int32)), .val (.int (16 : Int32))] [(.long vx), (.int (1 : Int32)), (.ref ra)]))
  obtain ⟨T5, h5, X5, e5, W5, A5, st5⟩ := OAJ.stJ X1 hx hZ e1 V1 (j := (1 : Int32)) (x := vx) (by decide) (by decide : 1 < 16) (Ls := #[.val (.ref ra), .val (.long vx), .second, .val (.int (1 : Int32)), .val (.int (16 : Int32))]) (rest := []) (hb hby d5_15)
  have Z6 : n0 ≤ h5.size := Nat.le_trans Z2 (Nat.le_of_eq W5.size.symm)
  have N7 := Fr.snoc X5 N3 g_ra
  have K8 : Keep h0 h5 [ra] := K4.wr W5 (Or.inl (List.mem_of_getElem? (i := 0) rfl))
  have V5 : OAJ Z h5 ra [vx, vx, (0 : Int64), (0 : Int64), (0 : Int64), (0 : Int64), (0 : Int64), (0 : Int64), (0 : Int64), (0 : Int64), (0 : Int64), (0 : Int64), (0 : Int64), (0 : Int64), (0 : Int64), (0 : Int64)] := A5
  refine OGo.on st5 ?_
  show OGo p e below s _ _ _ (T5.setTop (mkF m 16 #[.val (.ref ra), .val (.long vx), .second, .val (.int (1 : Int32)), .val (.int (16 : Int32))] []))
  refine OGo.on (fun t k => XS.iinc X5.here hx rfl (hb hby d5_16) rfl (l' := #[.val (.ref ra), .val (.long vx), .second, .val (.int (2 : Int32)), .val (.int (16 : Int32))]) rfl k) ?_
  show OGo p e below s _ _ _ (T5.setTop (mkF m 19 #[.val (.ref ra), .val (.long vx), .second, .val (.int (2 : Int32)), .val (.int (16 : Int32))] []))
  refine OGo.on (fun t k => XS.goto X5.here hx rfl (pc0 := 19) (pc' := 6) rfl (hb hby d5_19) (by decide) (by decide) k) ?_
  show OGo p e below s _ _ _ (T5.setTop (mkF m 6 #[.val (.ref ra), .val (.long vx), .second, .val (.int (2 : Int32)), .val (.int (16 : Int32))] []))
  refine OGo.on (fun t k => XS.iloadN X5.here hx rfl (hb hby d5_6) rfl k) ?_
  show OGo p e below s _ _ _ (T5.setTop (mkF m 7 #[.val (.ref ra), .val (.long vx), .second, .val (.int (2 : Int32)), .val (.int (16 : Int32))] [(.int (2 : Int32))]))
  refine OGo.on (fun t k => XS.iload X5.here hx rfl (hb hby d5_7) rfl k) ?_
  show OGo p e below s _ _ _ (T5.setTop (mkF m 9 #[.val (.ref ra), .val (.long vx), .second, .val (.int (2 : Int32)), .val (.int (16 : Int32))] [(.int (16 : Int32)), (.int (2 : Int32))]))
  refine OGo.on (fun t k => XS.icmpNo X5.here hx rfl (hb hby d5_9) rfl (tlt (by decide)).2.1 k) ?_
  show OGo p e below s _ _ _ (T5.setTop (mkF m 12 #[.val (.ref ra), .val (.long vx), .second, .val (.int (2 : Int32)), .val (.int (16 : Int32))] []))
  refine OGo.on (fun t k => XS.aloadN X5.here hx rfl (hb hby d5_12) rfl rfl k) ?_
  show OGo p e below s _ _ _ (T5.setTop (mkF m 13 #[.val (.ref ra), .val (.long vx), .second, .val (.int (2 : Int32)), .val (.int (16 : Int32))] [(.ref ra)]))
  refine OGo.on (fun t k => XS.iloadN X5.here hx rfl (hb hby d5_13) rfl k) ?_
  show OGo p e below s _ _ _ (T5.setTop (mkF m 14 #[.val (.ref ra), .val (.long vx), .second, .val (.int (2 : Int32)), .val (.int (16 : Int32))] [(.int (2 : Int32)), (.ref ra)]))
  refine OGo.on (fun t k => XS.lloadN X5.here hx rfl (hb hby d5_14) rfl k) ?_
  show OGo p e below s _ _ _ (T5.setTop (mkF m 15 #[.val (.ref ra), .val (.long vx), .second, .val (.int (2 : Int32)), .val (.int (16 : Int32))] [(.long vx), (.int (2 : Int32)), (.ref ra)]))
  obtain ⟨T9, h9, X9, e9, W9, A9, st9⟩ := OAJ.stJ X5 hx hZ e5 V5 (j := (2 : Int32)) (x := vx) (by decide) (by decide : 2 < 16) (Ls := #[.val (.ref ra), .val (.long vx), .second, .val (.int (2 : Int32)), .val (.int (16 : Int32))]) (rest := []) (hb hby d5_15)
  have Z10 : n0 ≤ h9.size := Nat.le_trans Z6 (Nat.le_of_eq W9.size.symm)
  have N11 := Fr.snoc X9 N7 g_ra
  have K12 : Keep h0 h9 [ra] := K8.wr W9 (Or.inl (List.mem_of_getElem? (i := 0) rfl))
  have V9 : OAJ Z h9 ra [vx, vx, vx, (0 : Int64), (0 : Int64), (0 : Int64), (0 : Int64), (0 : Int64), (0 : Int64), (0 : Int64), (0 : Int64), (0 : Int64), (0 : Int64), (0 : Int64), (0 : Int64), (0 : Int64)] := A9
  refine OGo.on st9 ?_
  show OGo p e below s _ _ _ (T9.setTop (mkF m 16 #[.val (.ref ra), .val (.long vx), .second, .val (.int (2 : Int32)), .val (.int (16 : Int32))] []))
  refine OGo.on (fun t k => XS.iinc X9.here hx rfl (hb hby d5_16) rfl (l' := #[.val (.ref ra), .val (.long vx), .second, .val (.int (3 : Int32)), .val (.int (16 : Int32))]) rfl k) ?_
  show OGo p e below s _ _ _ (T9.setTop (mkF m 19 #[.val (.ref ra), .val (.long vx), .second, .val (.int (3 : Int32)), .val (.int (16 : Int32))] []))
  refine OGo.on (fun t k => XS.goto X9.here hx rfl (pc0 := 19) (pc' := 6) rfl (hb hby d5_19) (by decide) (by decide) k) ?_
  show OGo p e below s _ _ _ (T9.setTop (mkF m 6 #[.val (.ref ra), .val (.long vx), .second, .val (.int (3 : Int32)), .val (.int (16 : Int32))] []))
  refine OGo.on (fun t k => XS.iloadN X9.here hx rfl (hb hby d5_6) rfl k) ?_
  show OGo p e below s _ _ _ (T9.setTop (mkF m 7 #[.val (.ref ra), .val (.long vx), .second, .val (.int (3 : Int32)), .val (.int (16 : Int32))] [(.int (3 : Int32))]))
  refine OGo.on (fun t k => XS.iload X9.here hx rfl (hb hby d5_7) rfl k) ?_
  show OGo p e below s _ _ _ (T9.setTop (mkF m 9 #[.val (.ref ra), .val (.long vx), .second, .val (.int (3 : Int32)), .val (.int (16 : Int32))] [(.int (16 : Int32)), (.int (3 : Int32))]))
  refine OGo.on (fun t k => XS.icmpNo X9.here hx rfl (hb hby d5_9) rfl (tlt (by decide)).2.1 k) ?_
  show OGo p e below s _ _ _ (T9.setTop (mkF m 12 #[.val (.ref ra), .val (.long vx), .second, .val (.int (3 : Int32)), .val (.int (16 : Int32))] []))
  refine OGo.on (fun t k => XS.aloadN X9.here hx rfl (hb hby d5_12) rfl rfl k) ?_
  show OGo p e below s _ _ _ (T9.setTop (mkF m 13 #[.val (.ref ra), .val (.long vx), .second, .val (.int (3 : Int32)), .val (.int (16 : Int32))] [(.ref ra)]))
  refine OGo.on (fun t k => XS.iloadN X9.here hx rfl (hb hby d5_13) rfl k) ?_
  show OGo p e below s _ _ _ (T9.setTop (mkF m 14 #[.val (.ref ra), .val (.long vx), .second, .val (.int (3 : Int32)), .val (.int (16 : Int32))] [(.int (3 : Int32)), (.ref ra)]))
  refine OGo.on (fun t k => XS.lloadN X9.here hx rfl (hb hby d5_14) rfl k) ?_
  show OGo p e below s _ _ _ (T9.setTop (mkF m 15 #[.val (.ref ra), .val (.long vx), .second, .val (.int (3 : Int32)), .val (.int (16 : Int32))] [(.long vx), (.int (3 : Int32)), (.ref ra)]))
  obtain ⟨T13, h13, X13, e13, W13, A13, st13⟩ := OAJ.stJ X9 hx hZ e9 V9 (j := (3 : Int32)) (x := vx) (by decide) (by decide : 3 < 16) (Ls := #[.val (.ref ra), .val (.long vx), .second, .val (.int (3 : Int32)), .val (.int (16 : Int32))]) (rest := []) (hb hby d5_15)
  have Z14 : n0 ≤ h13.size := Nat.le_trans Z10 (Nat.le_of_eq W13.size.symm)
  have N15 := Fr.snoc X13 N11 g_ra
  have K16 : Keep h0 h13 [ra] := K12.wr W13 (Or.inl (List.mem_of_getElem? (i := 0) rfl))
  have V13 : OAJ Z h13 ra [vx, vx, vx, vx, (0 : Int64), (0 : Int64), (0 : Int64), (0 : Int64), (0 : Int64), (0 : Int64), (0 : Int64), (0 : Int64), (0 : Int64), (0 : Int64), (0 : Int64), (0 : Int64)] := A13
  refine OGo.on st13 ?_
  show OGo p e below s _ _ _ (T13.setTop (mkF m 16 #[.val (.ref ra), .val (.long vx), .second, .val (.int (3 : Int32)), .val (.int (16 : Int32))] []))
  refine OGo.on (fun t k => XS.iinc X13.here hx rfl (hb hby d5_16) rfl (l' := #[.val (.ref ra), .val (.long vx), .second, .val (.int (4 : Int32)), .val (.int (16 : Int32))]) rfl k) ?_
  show OGo p e below s _ _ _ (T13.setTop (mkF m 19 #[.val (.ref ra), .val (.long vx), .second, .val (.int (4 : Int32)), .val (.int (16 : Int32))] []))
  refine OGo.on (fun t k => XS.goto X13.here hx rfl (pc0 := 19) (pc' := 6) rfl (hb hby d5_19) (by decide) (by decide) k) ?_
  show OGo p e below s _ _ _ (T13.setTop (mkF m 6 #[.val (.ref ra), .val (.long vx), .second, .val (.int (4 : Int32)), .val (.int (16 : Int32))] []))
  refine OGo.on (fun t k => XS.iloadN X13.here hx rfl (hb hby d5_6) rfl k) ?_
  show OGo p e below s _ _ _ (T13.setTop (mkF m 7 #[.val (.ref ra), .val (.long vx), .second, .val (.int (4 : Int32)), .val (.int (16 : Int32))] [(.int (4 : Int32))]))
  refine OGo.on (fun t k => XS.iload X13.here hx rfl (hb hby d5_7) rfl k) ?_
  show OGo p e below s _ _ _ (T13.setTop (mkF m 9 #[.val (.ref ra), .val (.long vx), .second, .val (.int (4 : Int32)), .val (.int (16 : Int32))] [(.int (16 : Int32)), (.int (4 : Int32))]))
  refine OGo.on (fun t k => XS.icmpNo X13.here hx rfl (hb hby d5_9) rfl (tlt (by decide)).2.1 k) ?_
  show OGo p e below s _ _ _ (T13.setTop (mkF m 12 #[.val (.ref ra), .val (.long vx), .second, .val (.int (4 : Int32)), .val (.int (16 : Int32))] []))
  refine OGo.on (fun t k => XS.aloadN X13.here hx rfl (hb hby d5_12) rfl rfl k) ?_
  show OGo p e below s _ _ _ (T13.setTop (mkF m 13 #[.val (.ref ra), .val (.long vx), .second, .val (.int (4 : Int32)), .val (.int (16 : Int32))] [(.ref ra)]))
  refine OGo.on (fun t k => XS.iloadN X13.here hx rfl (hb hby d5_13) rfl k) ?_
  show OGo p e below s _ _ _ (T13.setTop (mkF m 14 #[.val (.ref ra), .val (.long vx), .second, .val (.int (4 : Int32)), .val (.int (16 : Int32))] [(.int (4 : Int32)), (.ref ra)]))
  refine OGo.on (fun t k => XS.lloadN X13.here hx rfl (hb hby d5_14) rfl k) ?_
  show OGo p e below s _ _ _ (T13.setTop (mkF m 15 #[.val (.ref ra), .val (.long vx), .second, .val (.int (4 : Int32)), .val (.int (16 : Int32))] [(.long vx), (.int (4 : Int32)), (.ref ra)]))
  obtain ⟨T17, h17, X17, e17, W17, A17, st17⟩ := OAJ.stJ X13 hx hZ e13 V13 (j := (4 : Int32)) (x := vx) (by decide) (by decide : 4 < 16) (Ls := #[.val (.ref ra), .val (.long vx), .second, .val (.int (4 : Int32)), .val (.int (16 : Int32))]) (rest := []) (hb hby d5_15)
  have Z18 : n0 ≤ h17.size := Nat.le_trans Z14 (Nat.le_of_eq W17.size.symm)
  have N19 := Fr.snoc X17 N15 g_ra
  have K20 : Keep h0 h17 [ra] := K16.wr W17 (Or.inl (List.mem_of_getElem? (i := 0) rfl))
  have V17 : OAJ Z h17 ra [vx, vx, vx, vx, vx, (0 : Int64), (0 : Int64), (0 : Int64), (0 : Int64), (0 : Int64), (0 : Int64), (0 : Int64), (0 : Int64), (0 : Int64), (0 : Int64), (0 : Int64)] := A17
  refine OGo.on st17 ?_
  show OGo p e below s _ _ _ (T17.setTop (mkF m 16 #[.val (.ref ra), .val (.long vx), .second, .val (.int (4 : Int32)), .val (.int (16 : Int32))] []))
  refine OGo.on (fun t k => XS.iinc X17.here hx rfl (hb hby d5_16) rfl (l' := #[.val (.ref ra), .val (.long vx), .second, .val (.int (5 : Int32)), .val (.int (16 : Int32))]) rfl k) ?_
  show OGo p e below s _ _ _ (T17.setTop (mkF m 19 #[.val (.ref ra), .val (.long vx), .second, .val (.int (5 : Int32)), .val (.int (16 : Int32))] []))
  refine OGo.on (fun t k => XS.goto X17.here hx rfl (pc0 := 19) (pc' := 6) rfl (hb hby d5_19) (by decide) (by decide) k) ?_
  show OGo p e below s _ _ _ (T17.setTop (mkF m 6 #[.val (.ref ra), .val (.long vx), .second, .val (.int (5 : Int32)), .val (.int (16 : Int32))] []))
  refine OGo.on (fun t k => XS.iloadN X17.here hx rfl (hb hby d5_6) rfl k) ?_
  show OGo p e below s _ _ _ (T17.setTop (mkF m 7 #[.val (.ref ra), .val (.long vx), .second, .val (.int (5 : Int32)), .val (.int (16 : Int32))] [(.int (5 : Int32))]))
  refine OGo.on (fun t k => XS.iload X17.here hx rfl (hb hby d5_7) rfl k) ?_
  show OGo p e below s _ _ _ (T17.setTop (mkF m 9 #[.val (.ref ra), .val (.long vx), .second, .val (.int (5 : Int32)), .val (.int (16 : Int32))] [(.int (16 : Int32)), (.int (5 : Int32))]))
  refine OGo.on (fun t k => XS.icmpNo X17.here hx rfl (hb hby d5_9) rfl (tlt (by decide)).2.1 k) ?_
  show OGo p e below s _ _ _ (T17.setTop (mkF m 12 #[.val (.ref ra), .val (.long vx), .second, .val (.int (5 : Int32)), .val (.int (16 : Int32))] []))
  refine OGo.on (fun t k => XS.aloadN X17.here hx rfl (hb hby d5_12) rfl rfl k) ?_
  show OGo p e below s _ _ _ (T17.setTop (mkF m 13 #[.val (.ref ra), .val (.long vx), .second, .val (.int (5 : Int32)), .val (.int (16 : Int32))] [(.ref ra)]))
  refine OGo.on (fun t k => XS.iloadN X17.here hx rfl (hb hby d5_13) rfl k) ?_
  show OGo p e below s _ _ _ (T17.setTop (mkF m 14 #[.val (.ref ra), .val (.long vx), .second, .val (.int (5 : Int32)), .val (.int (16 : Int32))] [(.int (5 : Int32)), (.ref ra)]))
  refine OGo.on (fun t k => XS.lloadN X17.here hx rfl (hb hby d5_14) rfl k) ?_
  show OGo p e below s _ _ _ (T17.setTop (mkF m 15 #[.val (.ref ra), .val (.long vx), .second, .val (.int (5 : Int32)), .val (.int (16 : Int32))] [(.long vx), (.int (5 : Int32)), (.ref ra)]))
  obtain ⟨T21, h21, X21, e21, W21, A21, st21⟩ := OAJ.stJ X17 hx hZ e17 V17 (j := (5 : Int32)) (x := vx) (by decide) (by decide : 5 < 16) (Ls := #[.val (.ref ra), .val (.long vx), .second, .val (.int (5 : Int32)), .val (.int (16 : Int32))]) (rest := []) (hb hby d5_15)
  have Z22 : n0 ≤ h21.size := Nat.le_trans Z18 (Nat.le_of_eq W21.size.symm)
  have N23 := Fr.snoc X21 N19 g_ra
  have K24 : Keep h0 h21 [ra] := K20.wr W21 (Or.inl (List.mem_of_getElem? (i := 0) rfl))
  have V21 : OAJ Z h21 ra [vx, vx, vx, vx, vx, vx, (0 : Int64), (0 : Int64), (0 : Int64), (0 : Int64), (0 : Int64), (0 : Int64), (0 : Int64), (0 : Int64), (0 : Int64), (0 : Int64)] := A21
  refine OGo.on st21 ?_
  show OGo p e below s _ _ _ (T21.setTop (mkF m 16 #[.val (.ref ra), .val (.long vx), .second, .val (.int (5 : Int32)), .val (.int (16 : Int32))] []))
  refine OGo.on (fun t k => XS.iinc X21.here hx rfl (hb hby d5_16) rfl (l' := #[.val (.ref ra), .val (.long vx), .second, .val (.int (6 : Int32)), .val (.int (16 : Int32))]) rfl k) ?_
  show OGo p e below s _ _ _ (T21.setTop (mkF m 19 #[.val (.ref ra), .val (.long vx), .second, .val (.int (6 : Int32)), .val (.int (16 : Int32))] []))
  refine OGo.on (fun t k => XS.goto X21.here hx rfl (pc0 := 19) (pc' := 6) rfl (hb hby d5_19) (by decide) (by decide) k) ?_
  show OGo p e below s _ _ _ (T21.setTop (mkF m 6 #[.val (.ref ra), .val (.long vx), .second, .val (.int (6 : Int32)), .val (.int (16 : Int32))] []))
  refine OGo.on (fun t k => XS.iloadN X21.here hx rfl (hb hby d5_6) rfl k) ?_
  show OGo p e below s _ _ _ (T21.setTop (mkF m 7 #[.val (.ref ra), .val (.long vx), .second, .val (.int (6 : Int32)), .val (.int (16 : Int32))] [(.int (6 : Int32))]))
  refine OGo.on (fun t k => XS.iload X21.here hx rfl (hb hby d5_7) rfl k) ?_
  show OGo p e below s _ _ _ (T21.setTop (mkF m 9 #[.val (.ref ra), .val (.long vx), .second, .val (.int (6 : Int32)), .val (.int (16 : Int32))] [(.int (16 : Int32)), (.int (6 : Int32))]))
  refine OGo.on (fun t k => XS.icmpNo X21.here hx rfl (hb hby d5_9) rfl (tlt (by decide)).2.1 k) ?_
  show OGo p e below s _ _ _ (T21.setTop (mkF m 12 #[.val (.ref ra), .val (.long vx), .second, .val (.int (6 : Int32)), .val (.int (16 : Int32))] []))
  refine OGo.on (fun t k => XS.aloadN X21.here hx rfl (hb hby d5_12) rfl rfl k) ?_
  show OGo p e below s _ _ _ (T21.setTop (mkF m 13 #[.val (.ref ra), .val (.long vx), .second, .val (.int (6 : Int32)), .val (.int (16 : Int32))] [(.ref ra)]))
  refine OGo.on (fun t k => XS.iloadN X21.here hx rfl (hb hby d5_13) rfl k) ?_
  show OGo p e below s _ _ _ (T21.setTop (mkF m 14 #[.val (.ref ra), .val (.long vx), .second, .val (.int (6 : Int32)), .val (.int (16 : Int32))] [(.int (6 : Int32)), (.ref ra)]))
  refine OGo.on (fun t k => XS.lloadN X21.here hx rfl (hb hby d5_14) rfl k) ?_
  show OGo p e below s _ _ _ (T21.setTop (mkF m 15 #[.val (.ref ra), .val (.long vx), .second, .val (.int (6 : Int32)), .val (.int (16 : Int32))] [(.long vx), (.int (6 : Int32)), (.ref ra)]))
  obtain ⟨T25, h25, X25, e25, W25, A25, st25⟩ := OAJ.stJ X21 hx hZ e21 V21 (j := (6 : Int32)) (x := vx) (by decide) (by decide : 6 < 16) (Ls := #[.val (.ref ra), .val (.long vx), .second, .val (.int (6 : Int32)), .val (.int (16 : Int32))]) (rest := []) (hb hby d5_15)
  have Z26 : n0 ≤ h25.size := Nat.le_trans Z22 (Nat.le_of_eq W25.size.symm)
  have N27 := Fr.snoc X25 N23 g_ra
  have K28 : Keep h0 h25 [ra] := K24.wr W25 (Or.inl (List.mem_of_getElem? (i := 0) rfl))
  have V25 : OAJ Z h25 ra [vx, vx, vx, vx, vx, vx, vx, (0 : Int64), (0 : Int64), (0 : Int64), (0 : Int64), (0 : Int64), (0 : Int64), (0 : Int64), (0 : Int64), (0 : Int64)] := A25
  refine OGo.on st25 ?_
  show OGo p e below s _ _ _ (T25.setTop (mkF m 16 #[.val (.ref ra), .val (.long vx), .second, .val (.int (6 : Int32)), .val (.int (16 : Int32))] []))
  refine OGo.on (fun t k => XS.iinc X25.here hx rfl (hb hby d5_16) rfl (l' := #[.val (.ref ra), .val (.long vx), .second, .val (.int (7 : Int32)), .val (.int (16 : Int32))]) rfl k) ?_
  show OGo p e below s _ _ _ (T25.setTop (mkF m 19 #[.val (.ref ra), .val (.long vx), .second, .val (.int (7 : Int32)), .val (.int (16 : Int32))] []))
  refine OGo.on (fun t k => XS.goto X25.here hx rfl (pc0 := 19) (pc' := 6) rfl (hb hby d5_19) (by decide) (by decide) k) ?_
  show OGo p e below s _ _ _ (T25.setTop (mkF m 6 #[.val (.ref ra), .val (.long vx), .second, .val (.int (7 : Int32)), .val (.int (16 : Int32))] []))
  refine OGo.on (fun t k => XS.iloadN X25.here hx rfl (hb hby d5_6) rfl k) ?_
  show OGo p e below s _ _ _ (T25.setTop (mkF m 7 #[.val (.ref ra), .val (.long vx), .second, .val (.int (7 : Int32)), .val (.int (16 : Int32))] [(.int (7 : Int32))]))
  refine OGo.on (fun t k => XS.iload X25.here hx rfl (hb hby d5_7) rfl k) ?_
  show OGo p e below s _ _ _ (T25.setTop (mkF m 9 #[.val (.ref ra), .val (.long vx), .second, .val (.int (7 : Int32)), .val (.int (16 : Int32))] [(.int (16 : Int32)), (.int (7 : Int32))]))
  refine OGo.on (fun t k => XS.icmpNo X25.here hx rfl (hb hby d5_9) rfl (tlt (by decide)).2.1 k) ?_
  show OGo p e below s _ _ _ (T25.setTop (mkF m 12 #[.val (.ref ra), .val (.long vx), .second, .val (.int (7 : Int32)), .val (.int (16 : Int32))] []))
  refine OGo.on (fun t k => XS.aloadN X25.here hx rfl (hb hby d5_12) rfl rfl k) ?_
  show OGo p e below s _ _ _ (T25.setTop (mkF m 13 #[.val (.ref ra), .val (.long vx), .second, .val (.int (7 : Int32)), .val (.int (16 : Int32))] [(.ref ra)]))
  refine OGo.on (fun t k => XS.iloadN X25.here hx rfl (hb hby d5_13) rfl k) ?_
  show OGo p e below s _ _ _ (T25.setTop (mkF m 14 #[.val (.ref ra), .val (.long vx), .second, .val (.int (7 : Int32)), .val (.int (16 : Int32))] [(.int (7 : Int32)), (.ref ra)]))
  refine OGo.on (fun t k => XS.lloadN X25.here hx rfl (hb hby d5_14) rfl k) ?_
  show OGo p e below s _ _ _ (T25.setTop (mkF m 15 #[.val (.ref ra), .val (.long vx), .second, .val (.int (7 : Int32)), .val (.int (16 : Int32))] [(.long vx), (.int (7 : Int32)), (.ref ra)]))
  obtain ⟨T29, h29, X29, e29, W29, A29, st29⟩ := OAJ.stJ X25 hx hZ e25 V25 (j := (7 : Int32)) (x := vx) (by decide) (by decide : 7 < 16) (Ls := #[.val (.ref ra), .val (.long vx), .second, .val (.int (7 : Int32)), .val (.int (16 : Int32))]) (rest := []) (hb hby d5_15)
  have Z30 : n0 ≤ h29.size := Nat.le_trans Z26 (Nat.le_of_eq W29.size.symm)
  have N31 := Fr.snoc X29 N27 g_ra
  have K32 : Keep h0 h29 [ra] := K28.wr W29 (Or.inl (List.mem_of_getElem? (i := 0) rfl))
  have V29 : OAJ Z h29 ra [vx, vx, vx, vx, vx, vx, vx, vx, (0 : Int64), (0 : Int64), (0 : Int64), (0 : Int64), (0 : Int64), (0 : Int64), (0 : Int64), (0 : Int64)] := A29
  refine OGo.on st29 ?_
  show OGo p e below s _ _ _ (T29.setTop (mkF m 16 #[.val (.ref ra), .val (.long vx), .second, .val (.int (7 : Int32)), .val (.int (16 : Int32))] []))
  refine OGo.on (fun t k => XS.iinc X29.here hx rfl (hb hby d5_16) rfl (l' := #[.val (.ref ra), .val (.long vx), .second, .val (.int (8 : Int32)), .val (.int (16 : Int32))]) rfl k) ?_
  show OGo p e below s _ _ _ (T29.setTop (mkF m 19 #[.val (.ref ra), .val (.long vx), .second, .val (.int (8 : Int32)), .val (.int (16 : Int32))] []))
  refine OGo.on (fun t k => XS.goto X29.here hx rfl (pc0 := 19) (pc' := 6) rfl (hb hby d5_19) (by decide) (by decide) k) ?_
  show OGo p e below s _ _ _ (T29.setTop (mkF m 6 #[.val (.ref ra), .val (.long vx), .second, .val (.int (8 : Int32)), .val (.int (16 : Int32))] []))
  refine OGo.on (fun t k => XS.iloadN X29.here hx rfl (hb hby d5_6) rfl k) ?_
  show OGo p e below s _ _ _ (T29.setTop (mkF m 7 #[.val (.ref ra), .val (.long vx), .second, .val (.int (8 : Int32)), .val (.int (16 : Int32))] [(.int (8 : Int32))]))
  refine OGo.on (fun t k => XS.iload X29.here hx rfl (hb hby d5_7) rfl k) ?_
  show OGo p e below s _ _ _ (T29.setTop (mkF m 9 #[.val (.ref ra), .val (.long vx), .second, .val (.int (8 : Int32)), .val (.int (16 : Int32))] [(.int (16 : Int32)), (.int (8 : Int32))]))
  refine OGo.on (fun t k => XS.icmpNo X29.here hx rfl (hb hby d5_9) rfl (tlt (by decide)).2.1 k) ?_
  show OGo p e below s _ _ _ (T29.setTop (mkF m 12 #[.val (.ref ra), .val (.long vx), .second, .val (.int (8 : Int32)), .val (.int (16 : Int32))] []))
  refine OGo.on (fun t k => XS.aloadN X29.here hx rfl (hb hby d5_12) rfl rfl k) ?_
  show OGo p e below s _ _ _ (T29.setTop (mkF m 13 #[.val (.ref ra), .val (.long vx), .second, .val (.int (8 : Int32)), .val (.int (16 : Int32))] [(.ref ra)]))
  refine OGo.on (fun t k => XS.iloadN X29.here hx rfl (hb hby d5_13) rfl k) ?_
  show OGo p e below s _ _ _ (T29.setTop (mkF m 14 #[.val (.ref ra), .val (.long vx), .second, .val (.int (8 : Int32)), .val (.int (16 : Int32))] [(.int (8 : Int32)), (.ref ra)]))
  refine OGo.on (fun t k => XS.lloadN X29.here hx rfl (hb hby d5_14) rfl k) ?_
  show OGo p e below s _ _ _ (T29.setTop (mkF m 15 #[.val (.ref ra), .val (.long vx), .second, .val (.int (8 : Int32)), .val (.int (16 : Int32))] [(.long vx), (.int (8 : Int32)), (.ref ra)]))
  obtain ⟨T33, h33, X33, e33, W33, A33, st33⟩ := OAJ.stJ X29 hx hZ e29 V29 (j := (8 : Int32)) (x := vx) (by decide) (by decide : 8 < 16) (Ls := #[.val (.ref ra), .val (.long vx), .second, .val (.int (8 : Int32)), .val (.int (16 : Int32))]) (rest := []) (hb hby d5_15)
  have Z34 : n0 ≤ h33.size := Nat.le_trans Z30 (Nat.le_of_eq W33.size.symm)
  have N35 := Fr.snoc X33 N31 g_ra
  have K36 : Keep h0 h33 [ra] := K32.wr W33 (Or.inl (List.mem_of_getElem? (i := 0) rfl))
  have V33 : OAJ Z h33 ra [vx, vx, vx, vx, vx, vx, vx, vx, vx, (0 : Int64), (0 : Int64), (0 : Int64), (0 : Int64), (0 : Int64), (0 : Int64), (0 : Int64)] := A33
  refine OGo.on st33 ?_
  show OGo p e below s _ _ _ (T33.setTop (mkF m 16 #[.val (.ref ra), .val (.long vx), .second, .val (.int (8 : Int32)), .val (.int (16 : Int32))] []))
  refine OGo.on (fun t k => XS.iinc X33.here hx rfl (hb hby d5_16) rfl (l' := #[.val (.ref ra), .val (.long vx), .second, .val (.int (9 : Int32)), .val (.int (16 : Int32))]) rfl k) ?_
  show OGo p e below s _ _ _ (T33.setTop (mkF m 19 #[.val (.ref ra), .val (.long vx), .second, .val (.int (9 : Int32)), .val (.int (16 : Int32))] []))
  refine OGo.on (fun t k => XS.goto X33.here hx rfl (pc0 := 19) (pc' := 6) rfl (hb hby d5_19) (by decide) (by decide) k) ?_
  show OGo p e below s _ _ _ (T33.setTop (mkF m 6 #[.val (.ref ra), .val (.long vx), .second, .val (.int (9 : Int32)), .val (.int (16 : Int32))] []))
  refine OGo.on (fun t k => XS.iloadN X33.here hx rfl (hb hby d5_6) rfl k) ?_
  show OGo p e below s _ _ _ (T33.setTop (mkF m 7 #[.val (.ref ra), .val (.long vx), .second, .val (.int (9 : Int32)), .val (.int (16 : Int32))] [(.int (9 : Int32))]))
  refine OGo.on (fun t k => XS.iload X33.here hx rfl (hb hby d5_7) rfl k) ?_
  show OGo p e below s _ _ _ (T33.setTop (mkF m 9 #[.val (.ref ra), .val (.long vx), .second, .val (.int (9 : Int32)), .val (.int (16 : Int32))] [(.int (16 : Int32)), (.int (9 : Int32))]))
  refine OGo.on (fun t k => XS.icmpNo X33.here hx rfl (hb hby d5_9) rfl (tlt (by decide)).2.1 k) ?_
  show OGo p e below s _ _ _ (T33.setTop (mkF m 12 #[.val (.ref ra), .val (.long vx), .second, .val (.int (9 : Int32)), .val (.int (16 : Int32))] []))
  refine OGo.on (fun t k => XS.aloadN X33.here hx rfl (hb hby d5_12) rfl rfl k) ?_
  show OGo p e below s _ _ _ (T33.setTop (mkF m 13 #[.val (.ref ra), .val (.long vx), .second, .val (.int (9 : Int32)), .val (.int (16 : Int32))] [(.ref ra)]))
  refine OGo.on (fun t k => XS.iloadN X33.here hx rfl (hb hby d5_13) rfl k) ?_
  show OGo p e below s _ _ _ (T33.setTop (mkF m 14 #[.val (.ref ra), .val (.long vx), .second, .val (.int (9 : Int32)), .val (.int (16 : Int32))] [(.int (9 : Int32)), (.ref ra)]))
  refine OGo.on (fun t k => XS.lloadN X33.here hx rfl (hb hby d5_14) rfl k) ?_
  show OGo p e below s _ _ _ (T33.setTop (mkF m 15 #[.val (.ref ra), .val (.long vx), .second, .val (.int (9 : Int32)), .val (.int (16 : Int32))] [(.long vx), (.int (9 : Int32)), (.ref ra)]))
  obtain ⟨T37, h37, X37, e37, W37, A37, st37⟩ := OAJ.stJ X33 hx hZ e33 V33 (j := (9 : Int32)) (x := vx) (by decide) (by decide : 9 < 16) (Ls := #[.val (.ref ra), .val (.long vx), .second, .val (.int (9 : Int32)), .val (.int (16 : Int32))]) (rest := []) (hb hby d5_15)
  have Z38 : n0 ≤ h37.size := Nat.le_trans Z34 (Nat.le_of_eq W37.size.symm)
  have N39 := Fr.snoc X37 N35 g_ra
  have K40 : Keep h0 h37 [ra] := K36.wr W37 (Or.inl (List.mem_of_getElem? (i := 0) rfl))
  have V37 : OAJ Z h37 ra [vx, vx, vx, vx, vx, vx, vx, vx, vx, vx, (0 : Int64), (0 : Int64), (0 : Int64), (0 : Int64), (0 : Int64), (0 : Int64)] := A37
  refine OGo.on st37 ?_
  show OGo p e below s _ _ _ (T37.setTop (mkF m 16 #[.val (.ref ra), .val (.long vx), .second, .val (.int (9 : Int32)), .val (.int (16 : Int32))] []))
  refine OGo.on (fun t k => XS.iinc X37.here hx rfl (hb hby d5_16) rfl (l' := #[.val (.ref ra), .val (.long vx), .second, .val (.int (10 : Int32)), .val (.int (16 : Int32))]) rfl k) ?_
  show OGo p e below s _ _ _ (T37.setTop (mkF m 19 #[.val (.ref ra), .val (.long vx), .second, .val (.int (10 : Int32)), .val (.int (16 : Int32))] []))
  refine OGo.on (fun t k => XS.goto X37.here hx rfl (pc0 := 19) (pc' := 6) rfl (hb hby d5_19) (by decide) (by decide) k) ?_
  show OGo p e below s _ _ _ (T37.setTop (mkF m 6 #[.val (.ref ra), .val (.long vx), .second, .val (.int (10 : Int32)), .val (.int (16 : Int32))] []))
  refine OGo.on (fun t k => XS.iloadN X37.here hx rfl (hb hby d5_6) rfl k) ?_
  show OGo p e below s _ _ _ (T37.setTop (mkF m 7 #[.val (.ref ra), .val (.long vx), .second, .val (.int (10 : Int32)), .val (.int (16 : Int32))] [(.int (10 : Int32))]))
  refine OGo.on (fun t k => XS.iload X37.here hx rfl (hb hby d5_7) rfl k) ?_
  show OGo p e below s _ _ _ (T37.setTop (mkF m 9 #[.val (.ref ra), .val (.long vx), .second, .val (.int (10 : Int32)), .val (.int (16 : Int32))] [(.int (16 : Int32)), (.int (10 : Int32))]))
  refine OGo.on (fun t k => XS.icmpNo X37.here hx rfl (hb hby d5_9) rfl (tlt (by decide)).2.1 k) ?_
  show OGo p e below s _ _ _ (T37.setTop (mkF m 12 #[.val (.ref ra), .val (.long vx), .second, .val (.int (10 : Int32)), .val (.int (16 : Int32))] []))
  refine OGo.on (fun t k => XS.aloadN X37.here hx rfl (hb hby d5_12) rfl rfl k) ?_
  show OGo p e below s _ _ _ (T37.setTop (mkF m 13 #[.val (.ref ra), .val (.long vx), .second, .val (.int (10 : Int32)), .val (.int (16 : Int32))] [(.ref ra)]))
  refine OGo.on (fun t k => XS.iloadN X37.here hx rfl (hb hby d5_13) rfl k) ?_
  show OGo p e below s _ _ _ (T37.setTop (mkF m 14 #[.val (.ref ra), .val (.long vx), .second, .val (.int (10 : Int32)), .val (.int (16 : Int32))] [(.int (10 : Int32)), (.ref ra)]))
  refine OGo.on (fun t k => XS.lloadN X37.here hx rfl (hb hby d5_14) rfl k) ?_
  show OGo p e below s _ _ _ (T37.setTop (mkF m 15 #[.val (.ref ra), .val (.long vx), .second, .val (.int (10 : Int32)), .val (.int (16 : Int32))] [(.long vx), (.int (10 : Int32)), (.ref ra)]))
  obtain ⟨T41, h41, X41, e41, W41, A41, st41⟩ := OAJ.stJ X37 hx hZ e37 V37 (j := (10 : Int32)) (x := vx) (by decide) (by decide : 10 < 16) (Ls := #[.val (.ref ra), .val (.long vx), .second, .val (.int (10 : Int32)), .val (.int (16 : Int32))]) (rest := []) (hb hby d5_15)
  have Z42 : n0 ≤ h41.size := Nat.le_trans Z38 (Nat.le_of_eq W41.size.symm)
  have N43 := Fr.snoc X41 N39 g_ra
  have K44 : Keep h0 h41 [ra] := K40.wr W41 (Or.inl (List.mem_of_getElem? (i := 0) rfl))
  have V41 : OAJ Z h41 ra [vx, vx, vx, vx, vx, vx, vx, vx, vx, vx, vx, (0 : Int64), (0 : Int64), (0 : Int64), (0 : Int64), (0 : Int64)] := A41
  refine OGo.on st41 ?_
  show OGo p e below s _ _ _ (T41.setTop (mkF m 16 #[.val (.ref ra), .val (.long vx), .second, .val (.int (10 : Int32)), .val (.int (16 : Int32))] []))
  refine OGo.on (fun t k => XS.iinc X41.here hx rfl (hb hby d5_16) rfl (l' := #[.val (.ref ra), .val (.long vx), .second, .val (.int (11 : Int32)), .val (.int (16 : Int32))]) rfl k) ?_
  show OGo p e below s _ _ _ (T41.setTop (mkF m 19 #[.val (.ref ra), .val (.long vx), .second, .val (.int (11 : Int32)), .val (.int (16 : Int32))] []))
  refine OGo.on (fun t k => XS.goto X41.here hx rfl (pc0 := 19) (pc' := 6) rfl (hb hby d5_19) (by decide) (by decide) k) ?_
  show OGo p e below s _ _ _ (T41.setTop (mkF m 6 #[.val (.ref ra), .val (.long vx), .second, .val (.int (11 : Int32)), .val (.int (16 : Int32))] []))
  refine OGo.on (fun t k => XS.iloadN X41.here hx rfl (hb hby d5_6) rfl k) ?_
  show OGo p e below s _ _ _ (T41.setTop (mkF m 7 #[.val (.ref ra), .val (.long vx), .second, .val (.int (11 : Int32)), .val (.int (16 : Int32))] [(.int (11 : Int32))]))
  refine OGo.on (fun t k => XS.iload X41.here hx rfl (hb hby d5_7) rfl k) ?_
  show OGo p e below s _ _ _ (T41.setTop (mkF m 9 #[.val (.ref ra), .val (.long vx), .second, .val (.int (11 : Int32)), .val (.int (16 : Int32))] [(.int (16 : Int32)), (.int (11 : Int32))]))
  refine OGo.on (fun t k => XS.icmpNo X41.here hx rfl (hb hby d5_9) rfl (tlt (by decide)).2.1 k) ?_
  show OGo p e below s _ _ _ (T41.setTop (mkF m 12 #[.val (.ref ra), .val (.long vx), .second, .val (.int (11 : Int32)), .val (.int (16 : Int32))] []))
  refine OGo.on (fun t k => XS.aloadN X41.here hx rfl (hb hby d5_12) rfl rfl k) ?_
  show OGo p e below s _ _ _ (T41.setTop (mkF m 13 #[.val (.ref ra), .val (.long vx), .second, .val (.int (11 : Int32)), .val (.int (16 : Int32))] [(.ref ra)]))
  refine OGo.on (fun t k => XS.iloadN X41.here hx rfl (hb hby d5_13) rfl k) ?_
  show OGo p e below s _ _ _ (T41.setTop (mkF m 14 #[.val (.ref ra), .val (.long vx), .second, .val (.int (11 : Int32)), .val (.int (16 : Int32))] [(.int (11 : Int32)), (.ref ra)]))
  refine OGo.on (fun t k => XS.lloadN X41.here hx rfl (hb hby d5_14) rfl k) ?_
  show OGo p e below s _ _ _ (T41.setTop (mkF m 15 #[.val (.ref ra), .val (.long vx), .second, .val (.int (11 : Int32)), .val (.int (16 : Int32))] [(.long vx), (.int (11 : Int32)), (.ref ra)]))
  obtain ⟨T45, h45, X45, e45, W45, A45, st45⟩ := OAJ.stJ X41 hx hZ e41 V41 (j := (11 : Int32)) (x := vx) (by decide) (by decide : 11 < 16) (Ls := #[.val (.ref ra), .val (.long vx), .second, .val (.int (11 : Int32)), .val (.int (16 : Int32))]) (rest := []) (hb hby d5_15)
  have Z46 : n0 ≤ h45.size := Nat.le_trans Z42 (Nat.le_of_eq W45.size.symm)
  have N47 := Fr.snoc X45 N43 g_ra
  have K48 : Keep h0 h45 [ra] := K44.wr W45 (Or.inl (List.mem_of_getElem? (i := 0) rfl))
  have V45 : OAJ Z h45 ra [vx, vx, vx, vx, vx, vx, vx, vx, vx, vx, vx, vx, (0 : Int64), (0 : Int64), (0 : Int64), (0 : Int64)] := A45
  refine OGo.on st45 ?_
  show OGo p e below s _ _ _ (T45.setTop (mkF m 16 #[.val (.ref ra), .val (.long vx), .second, .val (.int (11 : Int32)), .val (.int (16 : Int32))] []))
  refine OGo.on (fun t k => XS.iinc X45.here hx rfl (hb hby d5_16) rfl (l' := #[.val (.ref ra), .val (.long vx), .second, .val (.int (12 : Int32)), .val (.int (16 : Int32))]) rfl k) ?_
  show OGo p e below s _ _ _ (T45.setTop (mkF m 19 #[.val (.ref ra), .val (.long vx), .second, .val (.int (12 : Int32)), .val (.int (16 : Int32))] []))
  refine OGo.on (fun t k => XS.goto X45.here hx rfl (pc0 := 19) (pc' := 6) rfl (hb hby d5_19) (by decide) (by decide) k) ?_
  show OGo p e below s _ _ _ (T45.setTop (mkF m 6 #[.val (.ref ra), .val (.long vx), .second, .val (.int (12 : Int32)), .val (.int (16 : Int32))] []))
  refine OGo.on (fun t k => XS.iloadN X45.here hx rfl (hb hby d5_6) rfl k) ?_
  show OGo p e below s _ _ _ (T45.setTop (mkF m 7 #[.val (.ref ra), .val (.long vx), .second, .val (.int (12 : Int32)), .val (.int (16 : Int32))] [(.int (12 : Int32))]))
  refine OGo.on (fun t k => XS.iload X45.here hx rfl (hb hby d5_7) rfl k) ?_
  show OGo p e below s _ _ _ (T45.setTop (mkF m 9 #[.val (.ref ra), .val (.long vx), .second, .val (.int (12 : Int32)), .val (.int (16 : Int32))] [(.int (16 : Int32)), (.int (12 : Int32))]))
  refine OGo.on (fun t k => XS.icmpNo X45.here hx rfl (hb hby d5_9) rfl (tlt (by decide)).2.1 k) ?_
  show OGo p e below s _ _ _ (T45.setTop (mkF m 12 #[.val (.ref ra), .val (.long vx), .second, .val (.int (12 : Int32)), .val (.int (16 : Int32))] []))
  refine OGo.on (fun t k => XS.aloadN X45.here hx rfl (hb hby d5_12) rfl rfl k) ?_
  show OGo p e below s _ _ _ (T45.setTop (mkF m 13 #[.val (.ref ra), .val (.long vx), .second, .val (.int (12 : Int32)), .val (.int (16 : Int32))] [(.ref ra)]))
  refine OGo.on (fun t k => XS.iloadN X45.here hx rfl (hb hby d5_13) rfl k) ?_
  show OGo p e below s _ _ _ (T45.setTop (mkF m 14 #[.val (.ref ra), .val (.long vx), .second, .val (.int (12 : Int32)), .val (.int (16 : Int32))] [(.int (12 : Int32)), (.ref ra)]))
  refine OGo.on (fun t k => XS.lloadN X45.here hx rfl (hb hby d5_14) rfl k) ?_
  show OGo p e below s _ _ _ (T45.setTop (mkF m 15 #[.val (.ref ra), .val (.long vx), .second, .val (.int (12 : Int32)), .val (.int (16 : Int32))] [(.long vx), (.int (12 : Int32)), (.ref ra)]))
  obtain ⟨T49, h49, X49, e49, W49, A49, st49⟩ := OAJ.stJ X45 hx hZ e45 V45 (j := (12 : Int32)) (x := vx) (by decide) (by decide : 12 < 16) (Ls := #[.val (.ref ra), .val (.long vx), .second, .val (.int (12 : Int32)), .val (.int (16 : Int32))]) (rest := []) (hb hby d5_15)
  have Z50 : n0 ≤ h49.size := Nat.le_trans Z46 (Nat.le_of_eq W49.size.symm)
  have N51 := Fr.snoc X49 N47 g_ra
  have K52 : Keep h0 h49 [ra] := K48.wr W49 (Or.inl (List.mem_of_getElem? (i := 0) rfl))
  have V49 : OAJ Z h49 ra [vx, vx, vx, vx, vx, vx, vx, vx, vx, vx, vx, vx, vx, (0 : Int64), (0 : Int64), (0 : Int64)] := A49
  refine OGo.on st49 ?_
  show OGo p e below s _ _ _ (T49.setTop (mkF m 16 #[.val (.ref ra), .val (.long vx), .second, .val (.int (12 : Int32)), .val (.int (16 : Int32))] []))
  refine OGo.on (fun t k => XS.iinc X49.here hx rfl (hb hby d5_16) rfl (l' := #[.val (.ref ra), .val (.long vx), .second, .val (.int (13 : Int32)), .val (.int (16 : Int32))]) rfl k) ?_
  show OGo p e below s _ _ _ (T49.setTop (mkF m 19 #[.val (.ref ra), .val (.long vx), .second, .val (.int (13 : Int32)), .val (.int (16 : Int32))] []))
  refine OGo.on (fun t k => XS.goto X49.here hx rfl (pc0 := 19) (pc' := 6) rfl (hb hby d5_19) (by decide) (by decide) k) ?_
  show OGo p e below s _ _ _ (T49.setTop (mkF m 6 #[.val (.ref ra), .val (.long vx), .second, .val (.int (13 : Int32)), .val (.int (16 : Int32))] []))
  refine OGo.on (fun t k => XS.iloadN X49.here hx rfl (hb hby d5_6) rfl k) ?_
  show OGo p e below s _ _ _ (T49.setTop (mkF m 7 #[.val (.ref ra), .val (.long vx), .second, .val (.int (13 : Int32)), .val (.int (16 : Int32))] [(.int (13 : Int32))]))
  refine OGo.on (fun t k => XS.iload X49.here hx rfl (hb hby d5_7) rfl k) ?_
  show OGo p e below s _ _ _ (T49.setTop (mkF m 9 #[.val (.ref ra), .val (.long vx), .second, .val (.int (13 : Int32)), .val (.int (16 : Int32))] [(.int (16 : Int32)), (.int (13 : Int32))]))
  refine OGo.on (fun t k => XS.icmpNo X49.here hx rfl (hb hby d5_9) rfl (tlt (by decide)).2.1 k) ?_
  show OGo p e below s _ _ _ (T49.setTop (mkF m 12 #[.val (.ref ra), .val (.long vx), .second, .val (.int (13 : Int32)), .val (.int (16 : Int32))] []))
  refine OGo.on (fun t k => XS.aloadN X49.here hx rfl (hb hby d5_12) rfl rfl k) ?_
  show OGo p e below s _ _ _ (T49.setTop (mkF m 13 #[.val (.ref ra), .val (.long vx), .second, .val (.int (13 : Int32)), .val (.int (16 : Int32))] [(.ref ra)]))
  refine OGo.on (fun t k => XS.iloadN X49.here hx rfl (hb hby d5_13) rfl k) ?_
  show OGo p e below s _ _ _ (T49.setTop (mkF m 14 #[.val (.ref ra), .val (.long vx), .second, .val (.int (13 : Int32)), .val (.int (16 : Int32))] [(.int (13 : Int32)), (.ref ra)]))
  refine OGo.on (fun t k => XS.lloadN X49.here hx rfl (hb hby d5_14) rfl k) ?_
  show OGo p e below s _ _ _ (T49.setTop (mkF m 15 #[.val (.ref ra), .val (.long vx), .second, .val (.int (13 : Int32)), .val (.int (16 : Int32))] [(.long vx), (.int (13 : Int32)), (.ref ra)]))
  obtain ⟨T53, h53, X53, e53, W53, A53, st53⟩ := OAJ.stJ X49 hx hZ e49 V49 (j := (13 : Int32)) (x := vx) (by decide) (by decide : 13 < 16) (Ls := #[.val (.ref ra), .val (.long vx), .second, .val (.int (13 : Int32)), .val (.int (16 : Int32))]) (rest := []) (hb hby d5_15)
  have Z54 : n0 ≤ h53.size := Nat.le_trans Z50 (Nat.le_of_eq W53.size.symm)
  have N55 := Fr.snoc X53 N51 g_ra
  have K56 : Keep h0 h53 [ra] := K52.wr W53 (Or.inl (List.mem_of_getElem? (i := 0) rfl))
  have V53 : OAJ Z h53 ra [vx, vx, vx, vx, vx, vx, vx, vx, vx, vx, vx, vx, vx, vx, (0 : Int64), (0 : Int64)] := A53
  refine OGo.on st53 ?_
  show OGo p e below s _ _ _ (T53.setTop (mkF m 16 #[.val (.ref ra), .val (.long vx), .second, .val (.int (13 : Int32)), .val (.int (16 : Int32))] []))
  refine OGo.on (fun t k => XS.iinc X53.here hx rfl (hb hby d5_16) rfl (l' := #[.val (.ref ra), .val (.long vx), .second, .val (.int (14 : Int32)), .val (.int (16 : Int32))]) rfl k) ?_
  show OGo p e below s _ _ _ (T53.setTop (mkF m 19 #[.val (.ref ra), .val (.long vx), .second, .val (.int (14 : Int32)), .val (.int (16 : Int32))] []))
  refine OGo.on (fun t k => XS.goto X53.here hx rfl (pc0 := 19) (pc' := 6) rfl (hb hby d5_19) (by decide) (by decide) k) ?_
  show OGo p e below s _ _ _ (T53.setTop (mkF m 6 #[.val (.ref ra), .val (.long vx), .second, .val (.int (14 : Int32)), .val (.int (16 : Int32))] []))
  refine OGo.on (fun t k => XS.iloadN X53.here hx rfl (hb hby d5_6) rfl k) ?_
  show OGo p e below s _ _ _ (T53.setTop (mkF m 7 #[.val (.ref ra), .val (.long vx), .second, .val (.int (14 : Int32)), .val (.int (16 : Int32))] [(.int (14 : Int32))]))
  refine OGo.on (fun t k => XS.iload X53.here hx rfl (hb hby d5_7) rfl k) ?_
  show OGo p e below s _ _ _ (T53.setTop (mkF m 9 #[.val (.ref ra), .val (.long vx), .second, .val (.int (14 : Int32)), .val (.int (16 : Int32))] [(.int (16 : Int32)), (.int (14 : Int32))]))
  refine OGo.on (fun t k => XS.icmpNo X53.here hx rfl (hb hby d5_9) rfl (tlt (by decide)).2.1 k) ?_
  show OGo p e below s _ _ _ (T53.setTop (mkF m 12 #[.val (.ref ra), .val (.long vx), .second, .val (.int (14 : Int32)), .val (.int (16 : Int32))] []))
  refine OGo.on (fun t k => XS.aloadN X53.here hx rfl (hb hby d5_12) rfl rfl k) ?_
  show OGo p e below s _ _ _ (T53.setTop (mkF m 13 #[.val (.ref ra), .val (.long vx), .second, .val (.int (14 : Int32)), .val (.int (16 : Int32))] [(.ref ra)]))
  refine OGo.on (fun t k => XS.iloadN X53.here hx rfl (hb hby d5_13) rfl k) ?_
  show OGo p e below s _ _ _ (T53.setTop (mkF m 14 #[.val (.ref ra), .val (.long vx), .second, .val (.int (14 : Int32)), .val (.int (16 : Int32))] [(.int (14 : Int32)), (.ref ra)]))
  refine OGo.on (fun t k => XS.lloadN X53.here hx rfl (hb hby d5_14) rfl k) ?_
  show OGo p e below s _ _ _ (T53.setTop (mkF m 15 #[.val (.ref ra), .val (.long vx), .second, .val (.int (14 : Int32)), .val (.int (16 : Int32))] [(.long vx), (.int (14 : Int32)), (.ref ra)]))
  obtain ⟨T57, h57, X57, e57, W57, A57, st57⟩ := OAJ.stJ X53 hx hZ e53 V53 (j := (14 : Int32)) (x := vx) (by decide) (by decide : 14 < 16) (Ls := #[.val (.ref ra), .val (.long vx), .second, .val (.int (14 : Int32)), .val (.int (16 : Int32))]) (rest := []) (hb hby d5_15)
  have Z58 : n0 ≤ h57.size := Nat.le_trans Z54 (Nat.le_of_eq W57.size.symm)
  have N59 := Fr.snoc X57 N55 g_ra
  have K60 : Keep h0 h57 [ra] := K56.wr W57 (Or.inl (List.mem_of_getElem? (i := 0) rfl))
  have V57 : OAJ Z h57 ra [vx, vx, vx, vx, vx, vx, vx, vx, vx, vx, vx, vx, vx, vx, vx, (0 : Int64)] := A57
  refine OGo.on st57 ?_
  show OGo p e below s _ _ _ (T57.setTop (mkF m 16 #[.val (.ref ra), .val (.long vx), .second, .val (.int (14 : Int32)), .val (.int (16 : Int32))] []))
  refine OGo.on (fun t k => XS.iinc X57.here hx rfl (hb hby d5_16) rfl (l' := #[.val (.ref ra), .val (.long vx), .second, .val (.int (15 : Int32)), .val (.int (16 : Int32))]) rfl k) ?_
  show OGo p e below s _ _ _ (T57.setTop (mkF m 19 #[.val (.ref ra), .val (.long vx), .second, .val (.int (15 : Int32)), .val (.int (16 : Int32))] []))
  refine OGo.on (fun t k => XS.goto X57.here hx rfl (pc0 := 19) (pc' := 6) rfl (hb hby d5_19) (by decide) (by decide) k) ?_
  show OGo p e below s _ _ _ (T57.setTop (mkF m 6 #[.val (.ref ra), .val (.long vx), .second, .val (.int (15 : Int32)), .val (.int (16 : Int32))] []))
  refine OGo.on (fun t k => XS.iloadN X57.here hx rfl (hb hby d5_6) rfl k) ?_
  show OGo p e below s _ _ _ (T57.setTop (mkF m 7 #[.val (.ref ra), .val (.long vx), .second, .val (.int (15 : Int32)), .val (.int (16 : Int32))] [(.int (15 : Int32))]))
  refine OGo.on (fun t k => XS.iload X57.here hx rfl (hb hby d5_7) rfl k) ?_
  show OGo p e below s _ _ _ (T57.setTop (mkF m 9 #[.val (.ref ra), .val (.long vx), .second, .val (.int (15 : Int32)), .val (.int (16 : Int32))] [(.int (16 : Int32)), (.int (15 : Int32))]))
  refine OGo.on (fun t k => XS.icmpNo X57.here hx rfl (hb hby d5_9) rfl (tlt (by decide)).2.1 k) ?_
  show OGo p e below s _ _ _ (T57.setTop (mkF m 12 #[.val (.ref ra), .val (.long vx), .second, .val (.int (15 : Int32)), .val (.int (16 : Int32))] []))
  refine OGo.on (fun t k => XS.aloadN X57.here hx rfl (hb hby d5_12) rfl rfl k) ?_
  show OGo p e below s _ _ _ (T57.setTop (mkF m 13 #[.val (.ref ra), .val (.long vx), .second, .val (.int (15 : Int32)), .val (.int (16 : Int32))] [(.ref ra)]))
  refine OGo.on (fun t k => XS.iloadN X57.here hx rfl (hb hby d5_13) rfl k) ?_
  show OGo p e below s _ _ _ (T57.setTop (mkF m 14 #[.val (.ref ra), .val (.long vx), .second, .val (.int (15 : Int32)), .val (.int (16 : Int32))] [(.int (15 : Int32)), (.ref ra)]))
  refine OGo.on (fun t k => XS.lloadN X57.here hx rfl (hb hby d5_14) rfl k) ?_
  show OGo p e below s _ _ _ (T57.setTop (mkF m 15 #[.val (.ref ra), .val (.long vx), .second, .val (.int (15 : Int32)), .val (.int (16 : Int32))] [(.long vx), (.int (15 : Int32)), (.ref ra)]))
  obtain ⟨T61, h61, X61, e61, W61, A61, st61⟩ := OAJ.stJ X57 hx hZ e57 V57 (j := (15 : Int32)) (x := vx) (by decide) (by decide : 15 < 16) (Ls := #[.val (.ref ra), .val (.long vx), .second, .val (.int (15 : Int32)), .val (.int (16 : Int32))]) (rest := []) (hb hby d5_15)
  have Z62 : n0 ≤ h61.size := Nat.le_trans Z58 (Nat.le_of_eq W61.size.symm)
  have N63 := Fr.snoc X61 N59 g_ra
  have K64 : Keep h0 h61 [ra] := K60.wr W61 (Or.inl (List.mem_of_getElem? (i := 0) rfl))
  have V61 : OAJ Z h61 ra [vx, vx, vx, vx, vx, vx, vx, vx, vx, vx, vx, vx, vx, vx, vx, vx] := A61
  refine OGo.on st61 ?_
  show OGo p e below s _ _ _ (T61.setTop (mkF m 16 #[.val (.ref ra), .val (.long vx), .second, .val (.int (15 : Int32)), .val (.int (16 : Int32))] []))
  refine OGo.on (fun t k => XS.iinc X61.here hx rfl (hb hby d5_16) rfl (l' := #[.val (.ref ra), .val (.long vx), .second, .val (.int (16 : Int32)), .val (.int (16 : Int32))]) rfl k) ?_
  show OGo p e below s _ _ _ (T61.setTop (mkF m 19 #[.val (.ref ra), .val (.long vx), .second, .val (.int (16 : Int32)), .val (.int (16 : Int32))] []))
  refine OGo.on (fun t k => XS.goto X61.here hx rfl (pc0 := 19) (pc' := 6) rfl (hb hby d5_19) (by decide) (by decide) k) ?_
  show OGo p e below s _ _ _ (T61.setTop (mkF m 6 #[.val (.ref ra), .val (.long vx), .second, .val (.int (16 : Int32)), .val (.int (16 : Int32))] []))
  refine OGo.on (fun t k => XS.iloadN X61.here hx rfl (hb hby d5_6) rfl k) ?_
  show OGo p e below s _ _ _ (T61.setTop (mkF m 7 #[.val (.ref ra), .val (.long vx), .second, .val (.int (16 : Int32)), .val (.int (16 : Int32))] [(.int (16 : Int32))]))
  refine OGo.on (fun t k => XS.iload X61.here hx rfl (hb hby d5_7) rfl k) ?_
  show OGo p e below s _ _ _ (T61.setTop (mkF m 9 #[.val (.ref ra), .val (.long vx), .second, .val (.int (16 : Int32)), .val (.int (16 : Int32))] [(.int (16 : Int32)), (.int (16 : Int32))]))
  refine OGo.on (fun t k => XS.icmpYes X61.here hx rfl (pc0 := 9) (pc' := 22) rfl (hb hby d5_9) rfl (flt (by decide)).2.1 (by decide) (by decide) k) ?_
  show OGo p e below s _ _ _ (T61.setTop (mkF m 22 #[.val (.ref ra), .val (.long vx), .second, .val (.int (16 : Int32)), .val (.int (16 : Int32))] []))
  exact OGo.ret0 X61 hx hret hlk (hb hby d5_22) ⟨rfl, N63, by rw [e61]; exact K64⟩ (by decide) (by decide)
def Q_own_newkeys (Z : State)  (h0 : Heap) (n0 : Nat) (v : Option Value) (h : Heap) (L : List Loc) : Prop := ∃ rb, v = some (.ref rb) ∧ Fr n0 L ∧ Keep h0 h []
theorem own_pn1 : plainName "org/surnia/graph/LongIntMap" = true := by first | (simp [plainName, overriddenIn]; done) | decide +kernel
theorem own_pd0 : parseMethodDescriptor "([JJ)V" = some ⟨[(.array .long), .long], none⟩ := by decide +kernel
theorem ef_own_newkeys (m : MethodId) (x0 : Int32) : entryFrame m #[(.int x0)] 2 = mkF m 0 #[.val (.int x0), .unset] [] := by first | (simp [entryFrame, mkF, argsToLocals, Value.category]; done) | rfl
theorem d4_0 : decode prog_18_method_6_code 0 = .ok (.iload_n 0, 1) := by decide +kernel
theorem d4_1 : decode prog_18_method_6_code 1 = .ok (.newarray .long, 2) := by decide +kernel
theorem d4_3 : decode prog_18_method_6_code 3 = .ok (.astore_n 1, 1) := by decide +kernel
theorem d4_4 : decode prog_18_method_6_code 4 = .ok (.aload_n 1, 1) := by decide +kernel
theorem d4_5 : decode prog_18_method_6_code 5 = .ok (.ldc2_w 25, 3) := by decide +kernel
theorem d4_8 : decode prog_18_method_6_code 8 = .ok (.invokestatic 36, 3) := by decide +kernel
theorem d4_11 : decode prog_18_method_6_code 11 = .ok (.aload_n 1, 1) := by decide +kernel
theorem d4_12 : decode prog_18_method_6_code 12 = .ok (.areturn, 1) := by decide +kernel
set_option maxRecDepth 65536 in
set_option maxHeartbeats 40000000 in
theorem own_newkeys (l : Launch) (Z : State) (a0 : Array Value) (hw : ∀ d ∈ tables_1, d.before a0 Z = true) (ws : List Jvm.Cond)  (h0 : Heap) (n0 : Nat) (Z0 : n0 ≤ h0.size)  :
    MetFree l (⟨"org/surnia/graph/LongIntMap", "newKeys", "(I)[J"⟩ : MethodName) (head1 (Jvm.Cond.code (⟨"org/surnia/graph/LongIntMap", "newKeys", "(I)[J"⟩ : MethodName) prog_18_method_6_code 2 (some (.array .long)) :: ws) ({ frames := 1, cells := 1, slots := 16, locals := 16 } : Room)) (fun a U => a = #[(.int (16 : Int32))] ∧ Z.Warmed39 U.vm ∧ U.heap = h0) (fun _ _ _ _ _ => True) (fun _ U o U' => ∃ v L, o = .returned v ∧ (Q_own_newkeys Z  h0 n0) v U'.heap L ∧ FrameEnd U o U' L ({ frames := 1, cells := 1, slots := 16, locals := 16 } : Room).cells ({ frames := 1, cells := 1, slots := 16, locals := 16 } : Room).slots) := by
  refine MetFree.of_bodySF (plainFor_of_name own_pn1) hisR ?_
  intro p e s m args below meth c s₁ Bd hml0 hP hK
  obtain ⟨rfl, hZ, hh⟩ := hP
  have hx := Bd.exec
  have hby := Bd.bytes
  have hret := Bd.returns
  have hlk : meth.locks = false := Bd.notSynchronized
  have hml : c.maxLocals = 2 := hml0
  have hown : s.vm.findClass "org/surnia/graph/LongIntMap" = some m.cls := findClass_of_methodNamed Bd.named
  have hnm := (name_of_methodNamed Bd.named Bd.method).1
  have X0 : Stand p l e ({ frames := 1, cells := 1, slots := 16, locals := 16 } : Room) s m #[(.int (16 : Int32))] below meth c s₁ [] 0 0 := Stand.of_body Bd
  have e0 : s₁.heap = h0 := by rw [← hh, Bd.state]; rfl
  have N0 := Fr.nil n0
  have pre0 : ∀ t, Steps p.tables e below (s₁.setTop (mkF m 0 #[.val (.int (16 : Int32)), .unset] [])) t → Steps p.tables e below (s₁.setTop (entryFrame m #[(.int (16 : Int32))] 2)) t := fun t k => castTop (ef_own_newkeys m (16 : Int32)) k
  have K0 : Keep h0 h0 [] := Keep.refl _ _
  show OGo p e below s (Q_own_newkeys Z  h0 n0) ({ frames := 1, cells := 1, slots := 16, locals := 16 } : Room).cells ({ frames := 1, cells := 1, slots := 16, locals := 16 } : Room).slots (s₁.setTop (entryFrame m #[(.int (16 : Int32))] 2))
  refine OGo.on pre0 ?_
  show OGo p e below s _ _ _ (s₁.setTop (mkF m 0 #[.val (.int (16 : Int32)), .unset] []))
  refine OGo.on (fun t k => XS.iloadN X0.here hx rfl (hb hby d4_0) rfl k) ?_
  show OGo p e below s _ _ _ (s₁.setTop (mkF m 1 #[.val (.int (16 : Int32)), .unset] [(.int (16 : Int32))]))
  obtain ⟨T65, h65, k65, X65, e65, E65, A65, st65⟩ := newP X0 hx hZ (hw _ (List.mem_of_getElem? (i := 20) rfl)) e0 (g := (mkF m 1 #[.val (.int (16 : Int32)), .unset] [(.int (16 : Int32))])) rfl (hb hby d4_1) rfl (by decide) (cap := 16) (by decide) (by decide) (by decide) (by decide)
  obtain ⟨b65, g65⟩ : ∃ z, z = h0.size := ⟨_, rfl⟩
  rw [← g65] at A65 st65
  have ge66 : n0 ≤ b65 := Nat.le_trans Z0 (Nat.le_of_eq g65.symm)
  have sz67 : h0.size ≤ b65 := Nat.le_trans K0.1 (Nat.le_of_eq g65.symm)
  have Z68 : n0 ≤ h65.size := Nat.le_trans Z0 E65.1
  have K69 : Keep h0 h65 [] := K0.ext E65
  have V65 : OAJ Z h65 b65 [(0 : Int64), (0 : Int64), (0 : Int64), (0 : Int64), (0 : Int64), (0 : Int64), (0 : Int64), (0 : Int64), (0 : Int64), (0 : Int64), (0 : Int64), (0 : Int64), (0 : Int64), (0 : Int64), (0 : Int64), (0 : Int64)] := OAJ.new A65
  refine OGo.on st65 ?_
  show OGo p e below s _ _ _ (T65.setTop (mkF m 3 #[.val (.int (16 : Int32)), .unset] [(.ref b65)]))
  refine OGo.on (fun t k => XS.astoreN X65.here hx rfl (hb hby d4_3) rfl rfl (l' := #[.val (.int (16 : Int32)), .val (.ref b65)]) rfl k) ?_
  show OGo p e below s _ _ _ (T65.setTop (mkF m 4 #[.val (.int (16 : Int32)), .val (.ref b65)] []))
  refine OGo.on (fun t k => XS.aloadN X65.here hx rfl (hb hby d4_4) rfl rfl k) ?_
  show OGo p e below s _ _ _ (T65.setTop (mkF m 5 #[.val (.int (16 : Int32)), .val (.ref b65)] [(.ref b65)]))
  refine OGo.on (fun t k => X65.ldc2J hx hown (mvT hZ (hw _ (List.mem_of_getElem? (i := 21) rfl))) (g := (mkF m 5 #[.val (.int (16 : Int32)), .val (.ref b65)] [(.ref b65)])) rfl (hb hby d4_5) k) ?_
  show OGo p e below s _ _ _ (T65.setTop (mkF m 8 #[.val (.int (16 : Int32)), .val (.ref b65)] [(.long (-1 : Int64)), (.ref b65)]))
  obtain ⟨_, _, ⟨T70, L70, k70, n70⟩, -, X70, ⟨Lc70, hQ70, l70, y70, z70⟩, st70⟩ := Jvm.LawKit.callS X65 hx (y := (⟨"java/util/Arrays", "fill", "([JJ)V"⟩ : MethodName)) hown (mvT hZ (hw _ (List.mem_of_getElem? (i := 22) rfl))) (mvT hZ (hw _ (List.mem_of_getElem? (i := 23) rfl))) (mvT hZ (hw _ (List.mem_of_getElem? (i := 24) rfl))) (mvT hZ (hw _ (List.mem_of_getElem? (i := 25) rfl))) (by decide) (backOf (W := 0) (own_fill l Z a0 hw [] b65 (-1 : Int64) h65 n0 Z68 ge66 V65) hZ (hw _ (List.mem_of_getElem? (i := 25) rfl)) (hw _ (List.mem_of_getElem? (i := 24) rfl)) (by decide) (by decide)) (g := (mkF m 8 #[.val (.int (16 : Int32)), .val (.ref b65)] [(.long (-1 : Int64)), (.ref b65)])) rfl (by rw [hml]; rfl) (argsL := [(.ref b65), (.long (-1 : Int64))]) (rest := []) (lenOf own_pd0 rfl) rfl (by show 2 * 0 + _ ≤ _; exact Nat.le_of_eq rfl) (hb hby d4_8) (fun _ _ => ⟨rfl, e65, (by decide : 1 + 0 ≤ _), (by decide : 16 + 0 ≤ _)⟩)
  dsimp only [Pt.U, Pt.locs, Pt.cells, Pt.slots] at X70 l70 y70 z70 st70 hQ70
  subst l70 y70 z70
  obtain ⟨rfl, N70q, K70⟩ := hQ70
  have N70 := Fr.app N0 N70q
  have Z71 : n0 ≤ T70.heap.size := Nat.le_trans Z68 K70.1
  have eh70 : T70.heap = T70.heap := rfl
  have K72 : Keep h0 T70.heap [] := K69.trans K70 (fun x q => by cases List.mem_singleton.mp q; exact Or.inr sz67)
  refine OGo.on st70 ?_
  show OGo p e below s _ _ _ (T70.setTop (mkF m 11 #[.val (.int (16 : Int32)), .val (.ref b65)] []))
  refine OGo.on (fun t k => XS.aloadN X70.here hx rfl (hb hby d4_11) rfl rfl k) ?_
  show OGo p e below s _ _ _ (T70.setTop (mkF m 12 #[.val (.int (16 : Int32)), .val (.ref b65)] [(.ref b65)]))
  exact OGo.retA X70 hx hret rfl rfl hlk (hb hby d4_12) ⟨_, rfl, N70, by rw [eh70]; exact K72⟩ (by decide) (by decide)
def Q_own_lminit (Z : State) (ra : Addr) (h0 : Heap) (n0 : Nat) (v : Option Value) (h : Heap) (L : List Loc) : Prop := v = none ∧ Fr n0 L ∧ Keep h0 h [ra]
theorem own_pd1 : parseMethodDescriptor "()V" = some ⟨[], none⟩ := by decide +kernel
theorem own_pd2 : parseMethodDescriptor "(I)[J" = some ⟨[.int], some (.array .long)⟩ := by decide +kernel
theorem ef_own_lminit (m : MethodId) (x0 : Addr) : entryFrame m #[(.ref x0)] 1 = mkF m 0 #[.val (.ref x0)] [] := by first | (simp [entryFrame, mkF, argsToLocals, Value.category]; done) | rfl
theorem d3_0 : decode prog_18_method_1_code 0 = .ok (.aload_n 0, 1) := by decide +kernel
theorem d3_1 : decode prog_18_method_1_code 1 = .ok (.invokespecial 1, 3) := by decide +kernel
theorem d3_4 : decode prog_18_method_1_code 4 = .ok (.aload_n 0, 1) := by decide +kernel
theorem d3_5 : decode prog_18_method_1_code 5 = .ok (.bipush 16, 2) := by decide +kernel
theorem d3_7 : decode prog_18_method_1_code 7 = .ok (.invokestatic 7, 3) := by decide +kernel
theorem d3_10 : decode prog_18_method_1_code 10 = .ok (.putfield 13, 3) := by decide +kernel
theorem d3_13 : decode prog_18_method_1_code 13 = .ok (.aload_n 0, 1) := by decide +kernel
theorem d3_14 : decode prog_18_method_1_code 14 = .ok (.bipush 16, 2) := by decide +kernel
theorem d3_16 : decode prog_18_method_1_code 16 = .ok (.newarray .int, 2) := by decide +kernel
theorem d3_18 : decode prog_18_method_1_code 18 = .ok (.putfield 17, 3) := by decide +kernel
theorem d3_21 : decode prog_18_method_1_code 21 = .ok (.return_, 1) := by decide +kernel
set_option maxRecDepth 65536 in
set_option maxHeartbeats 40000000 in
theorem own_lminit (l : Launch) (Z : State) (a0 : Array Value) (hw : ∀ d ∈ tables_1, d.before a0 Z = true) (ws : List Jvm.Cond) (ra : Addr) (h0 : Heap) (n0 : Nat) (Z0 : n0 ≤ h0.size) (g_ra : n0 ≤ ra) (E_ra : Exa Z h0 ra "org/surnia/graph/LongIntMap") (F_keys_ra : Fld Z h0 ra "org/surnia/graph/LongIntMap" "keys" "[J" .null) (F_values_ra : Fld Z h0 ra "org/surnia/graph/LongIntMap" "values" "[I" .null)  :
    MetFree l (⟨"org/surnia/graph/LongIntMap", "<init>", "()V"⟩ : MethodName) (head1 (Jvm.Cond.code (⟨"org/surnia/graph/LongIntMap", "<init>", "()V"⟩ : MethodName) prog_18_method_1_code 1 none :: ws) ({ frames := 2, cells := 2, slots := 32, locals := 30 } : Room)) (fun a U => a = #[(.ref ra)] ∧ Z.Warmed39 U.vm ∧ U.heap = h0) (fun _ _ _ _ _ => True) (fun _ U o U' => ∃ v L, o = .returned v ∧ (Q_own_lminit Z ra h0 n0) v U'.heap L ∧ FrameEnd U o U' L ({ frames := 2, cells := 2, slots := 32, locals := 30 } : Room).cells ({ frames := 2, cells := 2, slots := 32, locals := 30 } : Room).slots) := by
  refine MetFree.of_bodySF (plainFor_of_name own_pn1) hisR ?_
  intro p e s m args below meth c s₁ Bd hml0 hP hK
  obtain ⟨rfl, hZ, hh⟩ := hP
  have hx := Bd.exec
  have hby := Bd.bytes
  have hret := Bd.returns
  have hlk : meth.locks = false := Bd.notSynchronized
  have hml : c.maxLocals = 1 := hml0
  have hown : s.vm.findClass "org/surnia/graph/LongIntMap" = some m.cls := findClass_of_methodNamed Bd.named
  have hnm := (name_of_methodNamed Bd.named Bd.method).1
  have X0 : Stand p l e ({ frames := 2, cells := 2, slots := 32, locals := 30 } : Room) s m #[(.ref ra)] below meth c s₁ [] 0 0 := Stand.of_body Bd
  have e0 : s₁.heap = h0 := by rw [← hh, Bd.state]; rfl
  have N0 := Fr.nil n0
  have pre0 : ∀ t, Steps p.tables e below (s₁.setTop (mkF m 0 #[.val (.ref ra)] [])) t → Steps p.tables e below (s₁.setTop (entryFrame m #[(.ref ra)] 1)) t := fun t k => castTop (ef_own_lminit m ra) k
  have K0 : Keep h0 h0 [ra] := Keep.refl _ _
  show OGo p e below s (Q_own_lminit Z ra h0 n0) ({ frames := 2, cells := 2, slots := 32, locals := 30 } : Room).cells ({ frames := 2, cells := 2, slots := 32, locals := 30 } : Room).slots (s₁.setTop (entryFrame m #[(.ref ra)] 1))
  refine OGo.on pre0 ?_
  show OGo p e below s _ _ _ (s₁.setTop (mkF m 0 #[.val (.ref ra)] []))
  refine OGo.on (fun t k => XS.aloadN X0.here hx rfl (hb hby d3_0) rfl rfl k) ?_
  show OGo p e below s _ _ _ (s₁.setTop (mkF m 1 #[.val (.ref ra)] [(.ref ra)]))
  obtain ⟨T73, X73, e73, st73⟩ := initO X0 hx hZ hown (hw _ (List.mem_of_getElem? (i := 16) rfl)) (hw _ (List.mem_of_getElem? (i := 8) rfl)) (hw _ (List.mem_of_getElem? (i := 9) rfl)) e0 (g := (mkF m 1 #[.val (.ref ra)] [(.ref ra)])) rfl (by rw [hml]; rfl) rfl (hb hby d3_1) (by decide) (W := 0) (by show 2 * 0 + _ ≤ _; exact Nat.le_of_eq rfl) (by decide)
  refine OGo.on st73 ?_
  show OGo p e below s _ _ _ (T73.setTop (mkF m 4 #[.val (.ref ra)] []))
  refine OGo.on (fun t k => XS.aloadN X73.here hx rfl (hb hby d3_4) rfl rfl k) ?_
  show OGo p e below s _ _ _ (T73.setTop (mkF m 5 #[.val (.ref ra)] [(.ref ra)]))
  refine OGo.on (fun t k => XS.bipush X73.here hx rfl (hb hby d3_5) k) ?_
  show OGo p e below s _ _ _ (T73.setTop (mkF m 7 #[.val (.ref ra)] [(.int (16 : Int32)), (.ref ra)]))
  obtain ⟨_, _, ⟨T74, L74, k74, n74⟩, -, X74, ⟨Lc74, hQ74, l74, y74, z74⟩, st74⟩ := Jvm.LawKit.callS X73 hx (y := (⟨"org/surnia/graph/LongIntMap", "newKeys", "(I)[J"⟩ : MethodName)) hown (mvT hZ (hw _ (List.mem_of_getElem? (i := 17) rfl))) (mvT hZ (hw _ (List.mem_of_getElem? (i := 18) rfl))) (mvT hZ (hw _ (List.mem_of_getElem? (i := 12) rfl))) (mvT hZ (hw _ (List.mem_of_getElem? (i := 19) rfl))) (by decide) (backOf (W := 1) (own_newkeys l Z a0 hw [] h0 n0 Z0) hZ (hw _ (List.mem_of_getElem? (i := 19) rfl)) (hw _ (List.mem_of_getElem? (i := 12) rfl)) (by decide) (by decide)) (g := (mkF m 7 #[.val (.ref ra)] [(.int (16 : Int32)), (.ref ra)])) rfl (by rw [hml]; rfl) (argsL := [(.int (16 : Int32))]) (rest := [(.ref ra)]) (lenOf own_pd2 rfl) rfl (by show 2 * 0 + _ ≤ _; exact Nat.le_of_eq rfl) (hb hby d3_7) (fun _ _ => ⟨rfl, e73, (by decide : 0 + 1 ≤ _), (by decide : 0 + 16 ≤ _)⟩)
  dsimp only [Pt.U, Pt.locs, Pt.cells, Pt.slots] at X74 l74 y74 z74 st74 hQ74
  subst l74 y74 z74
  obtain ⟨rb74, rfl, N74q, K74⟩ := hQ74
  have N74 := Fr.app N0 N74q
  have f75 : Exa Z T74.heap ra "org/surnia/graph/LongIntMap" := E_ra.keep K74
  have f76 : Fld Z T74.heap ra "org/surnia/graph/LongIntMap" "keys" "[J" .null := F_keys_ra.keep K74 own_nm0
  have f77 : Fld Z T74.heap ra "org/surnia/graph/LongIntMap" "values" "[I" .null := F_values_ra.keep K74 own_nm0
  have Z78 : n0 ≤ T74.heap.size := Nat.le_trans Z0 K74.1
  have eh74 : T74.heap = T74.heap := rfl
  have K79 : Keep h0 T74.heap [ra] := K0.trans K74 (fun x q => nomatch q)
  refine OGo.on st74 ?_
  show OGo p e below s _ _ _ (T74.setTop (mkF m 10 #[.val (.ref ra)] [(.ref rb74), (.ref ra)]))
  obtain ⟨T80, h80, X80, e80, W80, st80⟩ := putF X74 hx hZ hown (host := "") (Or.inl (hw _ (List.mem_of_getElem? (i := 26) rfl))) Via.refl eh74 f76 f75 (Or.inl (hw _ (List.mem_of_getElem? (i := 27) rfl))) (hw _ (List.mem_of_getElem? (i := 11) rfl)) (ty := (.array .long)) (by decide) rfl rfl (g := (mkF m 10 #[.val (.ref ra)] [(.ref rb74), (.ref ra)])) rfl rfl (hb hby d3_10)
  have f81 : Exa Z h80 ra "org/surnia/graph/LongIntMap" := f75.wr W80
  have f82 : Fld Z h80 ra "org/surnia/graph/LongIntMap" "values" "[I" .null := f77.other W80 (Or.inr (slot_ne (Or.inl (hw _ (List.mem_of_getElem? (i := 30) rfl))) (Or.inl (hw _ (List.mem_of_getElem? (i := 27) rfl))) (by decide) (t := (.array .int)) (t' := (.array .long)) (by decide) (by decide)))
  have Z83 : n0 ≤ h80.size := Nat.le_trans Z78 (Nat.le_of_eq W80.size.symm)
  have N84 := Fr.snoc X80 N74 g_ra
  have K85 : Keep h0 h80 [ra] := K79.wr W80 (Or.inl (List.mem_of_getElem? (i := 0) rfl))
  have f86 : Fld Z h80 ra "org/surnia/graph/LongIntMap" "keys" "[J" (.ref rb74) := f76.same W80
  refine OGo.on st80 ?_
  show OGo p e below s _ _ _ (T80.setTop (mkF m 13 #[.val (.ref ra)] []))
  refine OGo.on (fun t k => XS.aloadN X80.here hx rfl (hb hby d3_13) rfl rfl k) ?_
  show OGo p e below s _ _ _ (T80.setTop (mkF m 14 #[.val (.ref ra)] [(.ref ra)]))
  refine OGo.on (fun t k => XS.bipush X80.here hx rfl (hb hby d3_14) k) ?_
  show OGo p e below s _ _ _ (T80.setTop (mkF m 16 #[.val (.ref ra)] [(.int (16 : Int32)), (.ref ra)]))
  obtain ⟨T87, h87, k87, X87, e87, E87, A87, st87⟩ := newP X80 hx hZ (hw _ (List.mem_of_getElem? (i := 28) rfl)) e80 (g := (mkF m 16 #[.val (.ref ra)] [(.int (16 : Int32)), (.ref ra)])) rfl (hb hby d3_16) rfl (by decide) (cap := 16) (by decide) (by decide) (by decide) (by decide)
  obtain ⟨b87, g87⟩ : ∃ z, z = h80.size := ⟨_, rfl⟩
  rw [← g87] at A87 st87
  have ne88 : ra ≠ b87 := Nat.ne_of_lt (Nat.lt_of_lt_of_le f81.lt (Nat.le_of_eq g87.symm))
  have ge89 : n0 ≤ b87 := Nat.le_trans Z83 (Nat.le_of_eq g87.symm)
  have sz90 : h0.size ≤ b87 := Nat.le_trans K85.1 (Nat.le_of_eq g87.symm)
  have f91 : Exa Z h87 ra "org/surnia/graph/LongIntMap" := f81.ext E87
  have f92 : Fld Z h87 ra "org/surnia/graph/LongIntMap" "keys" "[J" (.ref rb74) := f86.ext E87
  have f93 : Fld Z h87 ra "org/surnia/graph/LongIntMap" "values" "[I" .null := f82.ext E87
  have Z94 : n0 ≤ h87.size := Nat.le_trans Z83 E87.1
  have K95 : Keep h0 h87 [ra] := K85.ext E87
  have V87 : OAL Z h87 b87 .int [(0 : Int32), (0 : Int32), (0 : Int32), (0 : Int32), (0 : Int32), (0 : Int32), (0 : Int32), (0 : Int32), (0 : Int32), (0 : Int32), (0 : Int32), (0 : Int32), (0 : Int32), (0 : Int32), (0 : Int32), (0 : Int32)] := OAL.new A87 rfl
  refine OGo.on st87 ?_
  show OGo p e below s _ _ _ (T87.setTop (mkF m 18 #[.val (.ref ra)] [(.ref b87), (.ref ra)]))
  obtain ⟨T96, h96, X96, e96, W96, st96⟩ := putF X87 hx hZ hown (host := "") (Or.inl (hw _ (List.mem_of_getElem? (i := 29) rfl))) Via.refl e87 f93 f91 (Or.inl (hw _ (List.mem_of_getElem? (i := 30) rfl))) (hw _ (List.mem_of_getElem? (i := 11) rfl)) (ty := (.array .int)) (by decide) rfl rfl (g := (mkF m 18 #[.val (.ref ra)] [(.ref b87), (.ref ra)])) rfl rfl (hb hby d3_18)
  have f97 : Exa Z h96 ra "org/surnia/graph/LongIntMap" := f91.wr W96
  have f98 : Fld Z h96 ra "org/surnia/graph/LongIntMap" "keys" "[J" (.ref rb74) := f92.other W96 (Or.inr (slot_ne (Or.inl (hw _ (List.mem_of_getElem? (i := 27) rfl))) (Or.inl (hw _ (List.mem_of_getElem? (i := 30) rfl))) (by decide) (t := (.array .long)) (t' := (.array .int)) (by decide) (by decide)))
  have f99 : OAL Z h96 b87 .int [(0 : Int32), (0 : Int32), (0 : Int32), (0 : Int32), (0 : Int32), (0 : Int32), (0 : Int32), (0 : Int32), (0 : Int32), (0 : Int32), (0 : Int32), (0 : Int32), (0 : Int32), (0 : Int32), (0 : Int32), (0 : Int32)] := V87.other W96 (Ne.symm ne88)
  have Z100 : n0 ≤ h96.size := Nat.le_trans Z94 (Nat.le_of_eq W96.size.symm)
  have N101 := Fr.snoc X96 N84 g_ra
  have K102 : Keep h0 h96 [ra] := K95.wr W96 (Or.inl (List.mem_of_getElem? (i := 0) rfl))
  have f103 : Fld Z h96 ra "org/surnia/graph/LongIntMap" "values" "[I" (.ref b87) := f93.same W96
  refine OGo.on st96 ?_
  show OGo p e below s _ _ _ (T96.setTop (mkF m 21 #[.val (.ref ra)] []))
  exact OGo.ret0 X96 hx hret hlk (hb hby d3_21) ⟨rfl, N101, by rw [e96]; exact K102⟩ (by decide) (by decide)
def Q_own_chinit (Z : State) (ra : Addr) (vp : Int32) (h0 : Heap) (n0 : Nat) (v : Option Value) (h : Heap) (L : List Loc) : Prop := v = none ∧ Fr n0 L ∧ Keep h0 h [ra] ∧ Fld Z h ra "org/surnia/graph/Chains" "places" "I" (.int vp)
theorem own_pn2 : plainName "org/surnia/graph/Chains" = true := by first | (simp [plainName, overriddenIn]; done) | decide +kernel
theorem ef_own_chinit (m : MethodId) (x0 : Addr) (x1 : Int32) : entryFrame m #[(.ref x0), (.int x1)] 2 = mkF m 0 #[.val (.ref x0), .val (.int x1)] [] := by first | (simp [entryFrame, mkF, argsToLocals, Value.category]; done) | rfl
theorem d1_0 : decode prog_14_method_1_code 0 = .ok (.aload_n 0, 1) := by decide +kernel
theorem d1_1 : decode prog_14_method_1_code 1 = .ok (.invokespecial 3, 3) := by decide +kernel
theorem d1_4 : decode prog_14_method_1_code 4 = .ok (.aload_n 0, 1) := by decide +kernel
theorem d1_5 : decode prog_14_method_1_code 5 = .ok (.new 1, 3) := by decide +kernel
theorem d1_8 : decode prog_14_method_1_code 8 = .ok (.dup, 1) := by decide +kernel
theorem d1_9 : decode prog_14_method_1_code 9 = .ok (.invokespecial 9, 3) := by decide +kernel
theorem d1_12 : decode prog_14_method_1_code 12 = .ok (.putfield 10, 3) := by decide +kernel
theorem d1_15 : decode prog_14_method_1_code 15 = .ok (.aload_n 0, 1) := by decide +kernel
theorem d1_16 : decode prog_14_method_1_code 16 = .ok (.bipush 16, 2) := by decide +kernel
theorem d1_18 : decode prog_14_method_1_code 18 = .ok (.newarray .int, 2) := by decide +kernel
theorem d1_20 : decode prog_14_method_1_code 20 = .ok (.putfield 16, 3) := by decide +kernel
theorem d1_23 : decode prog_14_method_1_code 23 = .ok (.aload_n 0, 1) := by decide +kernel
theorem d1_24 : decode prog_14_method_1_code 24 = .ok (.iload_n 1, 1) := by decide +kernel
theorem d1_25 : decode prog_14_method_1_code 25 = .ok (.putfield 20, 3) := by decide +kernel
theorem d1_28 : decode prog_14_method_1_code 28 = .ok (.return_, 1) := by decide +kernel
set_option maxRecDepth 65536 in
set_option maxHeartbeats 40000000 in
theorem own_chinit (l : Launch) (Z : State) (a0 : Array Value) (hw : ∀ d ∈ tables_1, d.before a0 Z = true) (ws : List Jvm.Cond) (ra : Addr) (vp : Int32) (h0 : Heap) (n0 : Nat) (Z0 : n0 ≤ h0.size) (g_ra : n0 ≤ ra) (E_ra : Exa Z h0 ra "org/surnia/graph/Chains") (F_newest_ra : Fld Z h0 ra "org/surnia/graph/Chains" "newest" "Lorg/surnia/graph/LongIntMap;" .null) (F_older_ra : Fld Z h0 ra "org/surnia/graph/Chains" "older" "[I" .null) (F_places_ra : Fld Z h0 ra "org/surnia/graph/Chains" "places" "I" (.int (0 : Int32)))  :
    MetFree l (⟨"org/surnia/graph/Chains", "<init>", "(I)V"⟩ : MethodName) (head1 (Jvm.Cond.code (⟨"org/surnia/graph/Chains", "<init>", "(I)V"⟩ : MethodName) prog_14_method_1_code 2 none :: ws) ({ frames := 3, cells := 4, slots := 51, locals := 44 } : Room)) (fun a U => a = #[(.ref ra), (.int vp)] ∧ Z.Warmed39 U.vm ∧ U.heap = h0) (fun _ _ _ _ _ => True) (fun _ U o U' => ∃ v L, o = .returned v ∧ (Q_own_chinit Z ra vp h0 n0) v U'.heap L ∧ FrameEnd U o U' L ({ frames := 3, cells := 4, slots := 51, locals := 44 } : Room).cells ({ frames := 3, cells := 4, slots := 51, locals := 44 } : Room).slots) := by
  refine MetFree.of_bodySF (plainFor_of_name own_pn2) hisR ?_
  intro p e s m args below meth c s₁ Bd hml0 hP hK
  obtain ⟨rfl, hZ, hh⟩ := hP
  have hx := Bd.exec
  have hby := Bd.bytes
  have hret := Bd.returns
  have hlk : meth.locks = false := Bd.notSynchronized
  have hml : c.maxLocals = 2 := hml0
  have hown : s.vm.findClass "org/surnia/graph/Chains" = some m.cls := findClass_of_methodNamed Bd.named
  have hnm := (name_of_methodNamed Bd.named Bd.method).1
  have X0 : Stand p l e ({ frames := 3, cells := 4, slots := 51, locals := 44 } : Room) s m #[(.ref ra), (.int vp)] below meth c s₁ [] 0 0 := Stand.of_body Bd
  have e0 : s₁.heap = h0 := by rw [← hh, Bd.state]; rfl
  have N0 := Fr.nil n0
  have pre0 : ∀ t, Steps p.tables e below (s₁.setTop (mkF m 0 #[.val (.ref ra), .val (.int vp)] [])) t → Steps p.tables e below (s₁.setTop (entryFrame m #[(.ref ra), (.int vp)] 2)) t := fun t k => castTop (ef_own_chinit m ra vp) k
  have K0 : Keep h0 h0 [ra] := Keep.refl _ _
  show OGo p e below s (Q_own_chinit Z ra vp h0 n0) ({ frames := 3, cells := 4, slots := 51, locals := 44 } : Room).cells ({ frames := 3, cells := 4, slots := 51, locals := 44 } : Room).slots (s₁.setTop (entryFrame m #[(.ref ra), (.int vp)] 2))
  refine OGo.on pre0 ?_
  show OGo p e below s _ _ _ (s₁.setTop (mkF m 0 #[.val (.ref ra), .val (.int vp)] []))
  refine OGo.on (fun t k => XS.aloadN X0.here hx rfl (hb hby d1_0) rfl rfl k) ?_
  show OGo p e below s _ _ _ (s₁.setTop (mkF m 1 #[.val (.ref ra), .val (.int vp)] [(.ref ra)]))
  obtain ⟨T104, X104, e104, st104⟩ := initO X0 hx hZ hown (hw _ (List.mem_of_getElem? (i := 7) rfl)) (hw _ (List.mem_of_getElem? (i := 8) rfl)) (hw _ (List.mem_of_getElem? (i := 9) rfl)) e0 (g := (mkF m 1 #[.val (.ref ra), .val (.int vp)] [(.ref ra)])) rfl (by rw [hml]; rfl) rfl (hb hby d1_1) (by decide) (W := 0) (by show 2 * 0 + _ ≤ _; exact Nat.le_of_eq rfl) (by decide)
  refine OGo.on st104 ?_
  show OGo p e below s _ _ _ (T104.setTop (mkF m 4 #[.val (.ref ra), .val (.int vp)] []))
  refine OGo.on (fun t k => XS.aloadN X104.here hx rfl (hb hby d1_4) rfl rfl k) ?_
  show OGo p e below s _ _ _ (T104.setTop (mkF m 5 #[.val (.ref ra), .val (.int vp)] [(.ref ra)]))
  obtain ⟨T105, h105, X105, e105, E105, A105, D105, -, st105⟩ := newO X104 hx hZ hown (hw _ (List.mem_of_getElem? (i := 10) rfl)) (hw _ (List.mem_of_getElem? (i := 11) rfl)) (hw _ (List.mem_of_getElem? (i := 12) rfl)) e104 (g := (mkF m 5 #[.val (.ref ra), .val (.int vp)] [(.ref ra)])) rfl (hb hby d1_5) (by decide) (by decide)
  obtain ⟨b105, g105⟩ : ∃ z, z = h0.size := ⟨_, rfl⟩
  rw [← g105] at A105 D105 st105
  have ne106 : ra ≠ b105 := Nat.ne_of_lt (Nat.lt_of_lt_of_le E_ra.lt (Nat.le_of_eq g105.symm))
  have ge107 : n0 ≤ b105 := Nat.le_trans Z0 (Nat.le_of_eq g105.symm)
  have sz108 : h0.size ≤ b105 := Nat.le_trans K0.1 (Nat.le_of_eq g105.symm)
  have f109 : Exa Z h105 ra "org/surnia/graph/Chains" := E_ra.ext E105
  have f110 : Fld Z h105 ra "org/surnia/graph/Chains" "newest" "Lorg/surnia/graph/LongIntMap;" .null := F_newest_ra.ext E105
  have f111 : Fld Z h105 ra "org/surnia/graph/Chains" "older" "[I" .null := F_older_ra.ext E105
  have f112 : Fld Z h105 ra "org/surnia/graph/Chains" "places" "I" (.int (0 : Int32)) := F_places_ra.ext E105
  have Z113 : n0 ≤ h105.size := Nat.le_trans Z0 E105.1
  have K114 : Keep h0 h105 [ra] := K0.ext E105
  have f115 : Fld Z h105 b105 "org/surnia/graph/LongIntMap" "keys" "[J" .null := D105 (Or.inl (hw _ (List.mem_of_getElem? (i := 27) rfl))) (ty := (.array .long)) (by decide)
  have f116 : Fld Z h105 b105 "org/surnia/graph/LongIntMap" "values" "[I" .null := D105 (Or.inl (hw _ (List.mem_of_getElem? (i := 30) rfl))) (ty := (.array .int)) (by decide)
  refine OGo.on st105 ?_
  show OGo p e below s _ _ _ (T105.setTop (mkF m 8 #[.val (.ref ra), .val (.int vp)] [(.ref b105), (.ref ra)]))
  refine OGo.on (fun t k => XS.dup X105.here hx rfl (hb hby d1_8) rfl rfl k) ?_
  show OGo p e below s _ _ _ (T105.setTop (mkF m 9 #[.val (.ref ra), .val (.int vp)] [(.ref b105), (.ref b105), (.ref ra)]))
  obtain ⟨_, _, ⟨T117, L117, k117, n117⟩, -, X117, ⟨Lc117, hQ117, l117, y117, z117⟩, st117⟩ := X105.specialBack hx (y := (⟨"org/surnia/graph/LongIntMap", "<init>", "()V"⟩ : MethodName)) rfl hown (mvT hZ (hw _ (List.mem_of_getElem? (i := 13) rfl))) (mvT hZ (hw _ (List.mem_of_getElem? (i := 14) rfl))) (mvT hZ (hw _ (List.mem_of_getElem? (i := 15) rfl))) (by decide) (backOf (W := 2) (own_lminit l Z a0 hw [] b105 h105 n0 Z113 ge107 A105 f115 f116) hZ (hw _ (List.mem_of_getElem? (i := 15) rfl)) (hw _ (List.mem_of_getElem? (i := 12) rfl)) (by decide) (by decide)) (g := (mkF m 9 #[.val (.ref ra), .val (.int vp)] [(.ref b105), (.ref b105), (.ref ra)])) rfl (by rw [hml]; rfl) (Steps.refl _) (a := b105) (argsL := []) (rest := [(.ref b105), (.ref ra)]) (lenOf own_pd1 rfl) rfl (by show 2 * 0 + _ ≤ _; exact Nat.le_of_eq rfl) (hb hby d1_9) (fun _ _ => ⟨rfl, e105, (by decide : 1 + 2 ≤ _), (by decide : 3 + 32 ≤ _)⟩)
  dsimp only [Pt.U, Pt.locs, Pt.cells, Pt.slots] at X117 l117 y117 z117 st117 hQ117
  subst l117 y117 z117
  obtain ⟨rfl, N117q, K117⟩ := hQ117
  have N117 := Fr.app N0 N117q
  have f118 : Exa Z T117.heap ra "org/surnia/graph/Chains" := f109.keep K117
  have f119 : Fld Z T117.heap ra "org/surnia/graph/Chains" "newest" "Lorg/surnia/graph/LongIntMap;" .null := f110.keep K117 (own_nm1 ne106)
  have f120 : Fld Z T117.heap ra "org/surnia/graph/Chains" "older" "[I" .null := f111.keep K117 (own_nm1 ne106)
  have f121 : Fld Z T117.heap ra "org/surnia/graph/Chains" "places" "I" (.int (0 : Int32)) := f112.keep K117 (own_nm1 ne106)
  have f122 : Exa Z T117.heap b105 "org/surnia/graph/LongIntMap" := A105.keep K117
  have Z123 : n0 ≤ T117.heap.size := Nat.le_trans Z113 K117.1
  have eh117 : T117.heap = T117.heap := rfl
  have K124 : Keep h0 T117.heap [ra] := K114.trans K117 (fun x q => by cases List.mem_singleton.mp q; exact Or.inr sz108)
  refine OGo.on (fun t k => st117.trans k) ?_
  show OGo p e below s _ _ _ (T117.setTop (mkF m 12 #[.val (.ref ra), .val (.int vp)] [(.ref b105), (.ref ra)]))
  obtain ⟨T125, h125, X125, e125, W125, st125⟩ := putF X117 hx hZ hown (host := "") (Or.inl (hw _ (List.mem_of_getElem? (i := 31) rfl))) Via.refl eh117 f119 f118 (Or.inr ⟨(hw _ (List.mem_of_getElem? (i := 32) rfl)), rfl, hnm⟩) (hw _ (List.mem_of_getElem? (i := 2) rfl)) (ty := (.object "org/surnia/graph/LongIntMap")) (by decide) rfl rfl (g := (mkF m 12 #[.val (.ref ra), .val (.int vp)] [(.ref b105), (.ref ra)])) rfl rfl (hb hby d1_12)
  have f126 : Exa Z h125 ra "org/surnia/graph/Chains" := f118.wr W125
  have f127 : Fld Z h125 ra "org/surnia/graph/Chains" "older" "[I" .null := f120.other W125 (Or.inr (slot_ne (Or.inl (hw _ (List.mem_of_getElem? (i := 34) rfl))) (Or.inr (hw _ (List.mem_of_getElem? (i := 32) rfl))) (by decide) (t := (.array .int)) (t' := (.object "org/surnia/graph/LongIntMap")) (by decide) (by decide)))
  have f128 : Fld Z h125 ra "org/surnia/graph/Chains" "places" "I" (.int (0 : Int32)) := f121.other W125 (Or.inr (slot_ne (Or.inr (hw _ (List.mem_of_getElem? (i := 36) rfl))) (Or.inr (hw _ (List.mem_of_getElem? (i := 32) rfl))) (by decide) (t := .int) (t' := (.object "org/surnia/graph/LongIntMap")) (by decide) (by decide)))
  have f129 : Exa Z h125 b105 "org/surnia/graph/LongIntMap" := f122.wr W125
  have Z130 : n0 ≤ h125.size := Nat.le_trans Z123 (Nat.le_of_eq W125.size.symm)
  have N131 := Fr.snoc X125 N117 g_ra
  have K132 : Keep h0 h125 [ra] := K124.wr W125 (Or.inl (List.mem_of_getElem? (i := 0) rfl))
  have f133 : Fld Z h125 ra "org/surnia/graph/Chains" "newest" "Lorg/surnia/graph/LongIntMap;" (.ref b105) := f119.same W125
  refine OGo.on st125 ?_
  show OGo p e below s _ _ _ (T125.setTop (mkF m 15 #[.val (.ref ra), .val (.int vp)] []))
  refine OGo.on (fun t k => XS.aloadN X125.here hx rfl (hb hby d1_15) rfl rfl k) ?_
  show OGo p e below s _ _ _ (T125.setTop (mkF m 16 #[.val (.ref ra), .val (.int vp)] [(.ref ra)]))
  refine OGo.on (fun t k => XS.bipush X125.here hx rfl (hb hby d1_16) k) ?_
  show OGo p e below s _ _ _ (T125.setTop (mkF m 18 #[.val (.ref ra), .val (.int vp)] [(.int (16 : Int32)), (.ref ra)]))
  obtain ⟨T134, h134, k134, X134, e134, E134, A134, st134⟩ := newP X125 hx hZ (hw _ (List.mem_of_getElem? (i := 28) rfl)) e125 (g := (mkF m 18 #[.val (.ref ra), .val (.int vp)] [(.int (16 : Int32)), (.ref ra)])) rfl (hb hby d1_18) rfl (by decide) (cap := 16) (by decide) (by decide) (by decide) (by decide)
  obtain ⟨b134, g134⟩ : ∃ z, z = h125.size := ⟨_, rfl⟩
  rw [← g134] at A134 st134
  have ne135 : ra ≠ b134 := Nat.ne_of_lt (Nat.lt_of_lt_of_le f126.lt (Nat.le_of_eq g134.symm))
  have ne136 : b105 ≠ b134 := Nat.ne_of_lt (Nat.lt_of_lt_of_le f129.lt (Nat.le_of_eq g134.symm))
  have ge137 : n0 ≤ b134 := Nat.le_trans Z130 (Nat.le_of_eq g134.symm)
  have sz138 : h0.size ≤ b134 := Nat.le_trans K132.1 (Nat.le_of_eq g134.symm)
  have f139 : Exa Z h134 ra "org/surnia/graph/Chains" := f126.ext E134
  have f140 : Fld Z h134 ra "org/surnia/graph/Chains" "newest" "Lorg/surnia/graph/LongIntMap;" (.ref b105) := f133.ext E134
  have f141 : Fld Z h134 ra "org/surnia/graph/Chains" "older" "[I" .null := f127.ext E134
  have f142 : Fld Z h134 ra "org/surnia/graph/Chains" "places" "I" (.int (0 : Int32)) := f128.ext E134
  have f143 : Exa Z h134 b105 "org/surnia/graph/LongIntMap" := f129.ext E134
  have Z144 : n0 ≤ h134.size := Nat.le_trans Z130 E134.1
  have K145 : Keep h0 h134 [ra] := K132.ext E134
  have V134 : OAL Z h134 b134 .int [(0 : Int32), (0 : Int32), (0 : Int32), (0 : Int32), (0 : Int32), (0 : Int32), (0 : Int32), (0 : Int32), (0 : Int32), (0 : Int32), (0 : Int32), (0 : Int32), (0 : Int32), (0 : Int32), (0 : Int32), (0 : Int32)] := OAL.new A134 rfl
  refine OGo.on st134 ?_
  show OGo p e below s _ _ _ (T134.setTop (mkF m 20 #[.val (.ref ra), .val (.int vp)] [(.ref b134), (.ref ra)]))
  obtain ⟨T146, h146, X146, e146, W146, st146⟩ := putF X134 hx hZ hown (host := "") (Or.inl (hw _ (List.mem_of_getElem? (i := 33) rfl))) Via.refl e134 f141 f139 (Or.inl (hw _ (List.mem_of_getElem? (i := 34) rfl))) (hw _ (List.mem_of_getElem? (i := 2) rfl)) (ty := (.array .int)) (by decide) rfl rfl (g := (mkF m 20 #[.val (.ref ra), .val (.int vp)] [(.ref b134), (.ref ra)])) rfl rfl (hb hby d1_20)
  have f147 : Exa Z h146 ra "org/surnia/graph/Chains" := f139.wr W146
  have f148 : Fld Z h146 ra "org/surnia/graph/Chains" "newest" "Lorg/surnia/graph/LongIntMap;" (.ref b105) := f140.other W146 (Or.inr (slot_ne (Or.inr (hw _ (List.mem_of_getElem? (i := 32) rfl))) (Or.inl (hw _ (List.mem_of_getElem? (i := 34) rfl))) (by decide) (t := (.object "org/surnia/graph/LongIntMap")) (t' := (.array .int)) (by decide) (by decide)))
  have f149 : Fld Z h146 ra "org/surnia/graph/Chains" "places" "I" (.int (0 : Int32)) := f142.other W146 (Or.inr (slot_ne (Or.inr (hw _ (List.mem_of_getElem? (i := 36) rfl))) (Or.inl (hw _ (List.mem_of_getElem? (i := 34) rfl))) (by decide) (t := .int) (t' := (.array .int)) (by decide) (by decide)))
  have f150 : Exa Z h146 b105 "org/surnia/graph/LongIntMap" := f143.wr W146
  have f151 : OAL Z h146 b134 .int [(0 : Int32), (0 : Int32), (0 : Int32), (0 : Int32), (0 : Int32), (0 : Int32), (0 : Int32), (0 : Int32), (0 : Int32), (0 : Int32), (0 : Int32), (0 : Int32), (0 : Int32), (0 : Int32), (0 : Int32), (0 : Int32)] := V134.other W146 (Ne.symm ne135)
  have Z152 : n0 ≤ h146.size := Nat.le_trans Z144 (Nat.le_of_eq W146.size.symm)
  have N153 := Fr.snoc X146 N131 g_ra
  have K154 : Keep h0 h146 [ra] := K145.wr W146 (Or.inl (List.mem_of_getElem? (i := 0) rfl))
  have f155 : Fld Z h146 ra "org/surnia/graph/Chains" "older" "[I" (.ref b134) := f141.same W146
  refine OGo.on st146 ?_
  show OGo p e below s _ _ _ (T146.setTop (mkF m 23 #[.val (.ref ra), .val (.int vp)] []))
  refine OGo.on (fun t k => XS.aloadN X146.here hx rfl (hb hby d1_23) rfl rfl k) ?_
  show OGo p e below s _ _ _ (T146.setTop (mkF m 24 #[.val (.ref ra), .val (.int vp)] [(.ref ra)]))
  refine OGo.on (fun t k => XS.iloadN X146.here hx rfl (hb hby d1_24) rfl k) ?_
  show OGo p e below s _ _ _ (T146.setTop (mkF m 25 #[.val (.ref ra), .val (.int vp)] [(.int vp), (.ref ra)]))
  obtain ⟨T156, h156, X156, e156, W156, st156⟩ := putF X146 hx hZ hown (host := "") (Or.inl (hw _ (List.mem_of_getElem? (i := 35) rfl))) Via.refl e146 f149 f147 (Or.inr ⟨(hw _ (List.mem_of_getElem? (i := 36) rfl)), rfl, hnm⟩) (hw _ (List.mem_of_getElem? (i := 2) rfl)) (ty := .int) (by decide) rfl rfl (g := (mkF m 25 #[.val (.ref ra), .val (.int vp)] [(.int vp), (.ref ra)])) rfl rfl (hb hby d1_25)
  have f157 : Exa Z h156 ra "org/surnia/graph/Chains" := f147.wr W156
  have f158 : Fld Z h156 ra "org/surnia/graph/Chains" "newest" "Lorg/surnia/graph/LongIntMap;" (.ref b105) := f148.other W156 (Or.inr (slot_ne (Or.inr (hw _ (List.mem_of_getElem? (i := 32) rfl))) (Or.inr (hw _ (List.mem_of_getElem? (i := 36) rfl))) (by decide) (t := (.object "org/surnia/graph/LongIntMap")) (t' := .int) (by decide) (by decide)))
  have f159 : Fld Z h156 ra "org/surnia/graph/Chains" "older" "[I" (.ref b134) := f155.other W156 (Or.inr (slot_ne (Or.inl (hw _ (List.mem_of_getElem? (i := 34) rfl))) (Or.inr (hw _ (List.mem_of_getElem? (i := 36) rfl))) (by decide) (t := (.array .int)) (t' := .int) (by decide) (by decide)))
  have f160 : Exa Z h156 b105 "org/surnia/graph/LongIntMap" := f150.wr W156
  have f161 : OAL Z h156 b134 .int [(0 : Int32), (0 : Int32), (0 : Int32), (0 : Int32), (0 : Int32), (0 : Int32), (0 : Int32), (0 : Int32), (0 : Int32), (0 : Int32), (0 : Int32), (0 : Int32), (0 : Int32), (0 : Int32), (0 : Int32), (0 : Int32)] := f151.other W156 (Ne.symm ne135)
  have Z162 : n0 ≤ h156.size := Nat.le_trans Z152 (Nat.le_of_eq W156.size.symm)
  have N163 := Fr.snoc X156 N153 g_ra
  have K164 : Keep h0 h156 [ra] := K154.wr W156 (Or.inl (List.mem_of_getElem? (i := 0) rfl))
  have f165 : Fld Z h156 ra "org/surnia/graph/Chains" "places" "I" (.int vp) := f149.same W156
  refine OGo.on st156 ?_
  show OGo p e below s _ _ _ (T156.setTop (mkF m 28 #[.val (.ref ra), .val (.int vp)] []))
  exact OGo.ret0 X156 hx hret hlk (hb hby d1_28) ⟨rfl, N163, by rw [e156]; exact K164, by rw [e156]; exact f165⟩ (by decide) (by decide)
theorem ef_own_mplaces (m : MethodId) (x0 : Addr) : entryFrame m #[(.ref x0)] 1 = mkF m 0 #[.val (.ref x0)] [] := by first | (simp [entryFrame, mkF, argsToLocals, Value.category]; done) | rfl
theorem d7_0 : decode prog_14_method_2_code 0 = .ok (.aload_n 0, 1) := by decide +kernel
theorem d7_1 : decode prog_14_method_2_code 1 = .ok (.getfield 20, 3) := by decide +kernel
theorem d7_4 : decode prog_14_method_2_code 4 = .ok (.ireturn, 1) := by decide +kernel
set_option maxRecDepth 65536 in
set_option maxHeartbeats 40000000 in
theorem own_mplaces (l : Launch) (Z : State) (a0 : Array Value) (hw : ∀ d ∈ tables_1, d.before a0 Z = true) (ws : List Jvm.Cond) (ra : Addr) (vp : Int32) (h0 : Heap) (n0 : Nat) (Z0 : n0 ≤ h0.size) (F_places_ra : Fld Z h0 ra "org/surnia/graph/Chains" "places" "I" (.int vp))  :
    MetFree l (⟨"org/surnia/graph/Chains", "places", "()I"⟩ : MethodName) (head1 (Jvm.Cond.code (⟨"org/surnia/graph/Chains", "places", "()I"⟩ : MethodName) prog_14_method_2_code 1 (some .int) :: ws) ({ frames := 0, cells := 0, slots := 0, locals := 0 } : Room)) (fun a U => a = #[(.ref ra)] ∧ Z.Warmed39 U.vm ∧ U.heap = h0) (fun _ _ _ _ _ => True) (fun _ U o U' => ∃ v L, o = .returned v ∧ (OPure n0 h0 (some (.int vp))) v U'.heap L ∧ FrameEnd U o U' L ({ frames := 0, cells := 0, slots := 0, locals := 0 } : Room).cells ({ frames := 0, cells := 0, slots := 0, locals := 0 } : Room).slots) := by
  refine MetFree.of_bodySF (plainFor_of_name own_pn2) hisR ?_
  intro p e s m args below meth c s₁ Bd hml0 hP hK
  obtain ⟨rfl, hZ, hh⟩ := hP
  have hx := Bd.exec
  have hby := Bd.bytes
  have hret := Bd.returns
  have hlk : meth.locks = false := Bd.notSynchronized
  have hml : c.maxLocals = 1 := hml0
  have hown : s.vm.findClass "org/surnia/graph/Chains" = some m.cls := findClass_of_methodNamed Bd.named
  have hnm := (name_of_methodNamed Bd.named Bd.method).1
  have X0 : Stand p l e ({ frames := 0, cells := 0, slots := 0, locals := 0 } : Room) s m #[(.ref ra)] below meth c s₁ [] 0 0 := Stand.of_body Bd
  have e0 : s₁.heap = h0 := by rw [← hh, Bd.state]; rfl
  have N0 := Fr.nil n0
  have pre0 : ∀ t, Steps p.tables e below (s₁.setTop (mkF m 0 #[.val (.ref ra)] [])) t → Steps p.tables e below (s₁.setTop (entryFrame m #[(.ref ra)] 1)) t := fun t k => castTop (ef_own_mplaces m ra) k
  show OGo p e below s (OPure n0 h0 (some (.int vp))) ({ frames := 0, cells := 0, slots := 0, locals := 0 } : Room).cells ({ frames := 0, cells := 0, slots := 0, locals := 0 } : Room).slots (s₁.setTop (entryFrame m #[(.ref ra)] 1))
  refine OGo.on pre0 ?_
  show OGo p e below s _ _ _ (s₁.setTop (mkF m 0 #[.val (.ref ra)] []))
  refine OGo.on (fun t k => XS.aloadN X0.here hx rfl (hb hby d7_0) rfl rfl k) ?_
  show OGo p e below s _ _ _ (s₁.setTop (mkF m 1 #[.val (.ref ra)] [(.ref ra)]))
  obtain ⟨T166, X166, e166, st166⟩ := getF X0 hx hZ hown (host := "") (Or.inl (hw _ (List.mem_of_getElem? (i := 35) rfl))) Via.refl e0 F_places_ra (g := (mkF m 1 #[.val (.ref ra)] [(.ref ra)])) rfl rfl (hb hby d7_1)
  refine OGo.on st166 ?_
  show OGo p e below s _ _ _ (T166.setTop (mkF m 4 #[.val (.ref ra)] [(.int vp)]))
  exact OGo.retI X166 hx hret hlk (hb hby d7_4) (opI rfl N0 e166) (by decide) (by decide)
theorem ef_own_mkey (m : MethodId) (x0 : Addr) (x1 : Int32) (x2 : Int32) (x3 : Int32) : entryFrame m #[(.ref x0), (.int x1), (.int x2), (.int x3)] 6 = mkF m 0 #[.val (.ref x0), .val (.int x1), .val (.int x2), .val (.int x3), .unset, .unset] [] := by first | (simp [entryFrame, mkF, argsToLocals, Value.category]; done) | rfl
theorem d6_0 : decode prog_14_method_3_code 0 = .ok (.lconst 0, 1) := by decide +kernel
theorem d6_1 : decode prog_14_method_3_code 1 = .ok (.lstore 4, 2) := by decide +kernel
theorem d6_3 : decode prog_14_method_3_code 3 = .ok (.aload_n 0, 1) := by decide +kernel
theorem d6_4 : decode prog_14_method_3_code 4 = .ok (.getfield 20, 3) := by decide +kernel
theorem d6_7 : decode prog_14_method_3_code 7 = .ok (.iconst 1, 1) := by decide +kernel
theorem d6_8 : decode prog_14_method_3_code 8 = .ok (.iand, 1) := by decide +kernel
theorem d6_9 : decode prog_14_method_3_code 9 = .ok (.ifCond .eq 7, 3) := by decide +kernel
theorem d6_12 : decode prog_14_method_3_code 12 = .ok (.iload_n 1, 1) := by decide +kernel
theorem d6_13 : decode prog_14_method_3_code 13 = .ok (.i2l, 1) := by decide +kernel
theorem d6_14 : decode prog_14_method_3_code 14 = .ok (.lstore 4, 2) := by decide +kernel
theorem d6_16 : decode prog_14_method_3_code 16 = .ok (.aload_n 0, 1) := by decide +kernel
theorem d6_17 : decode prog_14_method_3_code 17 = .ok (.getfield 20, 3) := by decide +kernel
theorem d6_20 : decode prog_14_method_3_code 20 = .ok (.iconst 2, 1) := by decide +kernel
theorem d6_21 : decode prog_14_method_3_code 21 = .ok (.iand, 1) := by decide +kernel
theorem d6_22 : decode prog_14_method_3_code 22 = .ok (.ifCond .eq 13, 3) := by decide +kernel
theorem d6_25 : decode prog_14_method_3_code 25 = .ok (.lload 4, 2) := by decide +kernel
theorem d6_27 : decode prog_14_method_3_code 27 = .ok (.bipush 32, 2) := by decide +kernel
theorem d6_29 : decode prog_14_method_3_code 29 = .ok (.lshl, 1) := by decide +kernel
theorem d6_30 : decode prog_14_method_3_code 30 = .ok (.iload_n 2, 1) := by decide +kernel
theorem d6_31 : decode prog_14_method_3_code 31 = .ok (.i2l, 1) := by decide +kernel
theorem d6_32 : decode prog_14_method_3_code 32 = .ok (.lor, 1) := by decide +kernel
theorem d6_33 : decode prog_14_method_3_code 33 = .ok (.lstore 4, 2) := by decide +kernel
theorem d6_35 : decode prog_14_method_3_code 35 = .ok (.aload_n 0, 1) := by decide +kernel
theorem d6_36 : decode prog_14_method_3_code 36 = .ok (.getfield 20, 3) := by decide +kernel
theorem d6_39 : decode prog_14_method_3_code 39 = .ok (.iconst 4, 1) := by decide +kernel
theorem d6_40 : decode prog_14_method_3_code 40 = .ok (.iand, 1) := by decide +kernel
theorem d6_41 : decode prog_14_method_3_code 41 = .ok (.ifCond .eq 13, 3) := by decide +kernel
theorem d6_44 : decode prog_14_method_3_code 44 = .ok (.lload 4, 2) := by decide +kernel
theorem d6_46 : decode prog_14_method_3_code 46 = .ok (.bipush 32, 2) := by decide +kernel
theorem d6_48 : decode prog_14_method_3_code 48 = .ok (.lshl, 1) := by decide +kernel
theorem d6_49 : decode prog_14_method_3_code 49 = .ok (.iload_n 3, 1) := by decide +kernel
theorem d6_50 : decode prog_14_method_3_code 50 = .ok (.i2l, 1) := by decide +kernel
theorem d6_51 : decode prog_14_method_3_code 51 = .ok (.lor, 1) := by decide +kernel
theorem d6_52 : decode prog_14_method_3_code 52 = .ok (.lstore 4, 2) := by decide +kernel
theorem d6_54 : decode prog_14_method_3_code 54 = .ok (.lload 4, 2) := by decide +kernel
theorem d6_56 : decode prog_14_method_3_code 56 = .ok (.lreturn, 1) := by decide +kernel
set_option maxRecDepth 65536 in
set_option maxHeartbeats 40000000 in
theorem own_mkey (l : Launch) (Z : State) (a0 : Array Value) (hw : ∀ d ∈ tables_1, d.before a0 Z = true) (ws : List Jvm.Cond) (ra : Addr) (vs vq vo vp : Int32) (h0 : Heap) (n0 : Nat) (Z0 : n0 ≤ h0.size) (F_places_ra : Fld Z h0 ra "org/surnia/graph/Chains" "places" "I" (.int vp))  :
    MetFree l (⟨"org/surnia/graph/Chains", "key", "(III)J"⟩ : MethodName) (head1 (Jvm.Cond.code (⟨"org/surnia/graph/Chains", "key", "(III)J"⟩ : MethodName) prog_14_method_3_code 6 (some .long) :: ws) ({ frames := 0, cells := 0, slots := 0, locals := 0 } : Room)) (fun a U => a = #[(.ref ra), (.int vs), (.int vq), (.int vo)] ∧ Z.Warmed39 U.vm ∧ U.heap = h0) (fun _ _ _ _ _ => True) (fun _ U o U' => ∃ v L, o = .returned v ∧ (OPure n0 h0 (some (.long (own_key vp vs vq vo)))) v U'.heap L ∧ FrameEnd U o U' L ({ frames := 0, cells := 0, slots := 0, locals := 0 } : Room).cells ({ frames := 0, cells := 0, slots := 0, locals := 0 } : Room).slots) := by
  refine MetFree.of_bodySF (plainFor_of_name own_pn2) hisR ?_
  intro p e s m args below meth c s₁ Bd hml0 hP hK
  obtain ⟨rfl, hZ, hh⟩ := hP
  have hx := Bd.exec
  have hby := Bd.bytes
  have hret := Bd.returns
  have hlk : meth.locks = false := Bd.notSynchronized
  have hml : c.maxLocals = 6 := hml0
  have hown : s.vm.findClass "org/surnia/graph/Chains" = some m.cls := findClass_of_methodNamed Bd.named
  have hnm := (name_of_methodNamed Bd.named Bd.method).1
  have X0 : Stand p l e ({ frames := 0, cells := 0, slots := 0, locals := 0 } : Room) s m #[(.ref ra), (.int vs), (.int vq), (.int vo)] below meth c s₁ [] 0 0 := Stand.of_body Bd
  have e0 : s₁.heap = h0 := by rw [← hh, Bd.state]; rfl
  have N0 := Fr.nil n0
  have pre0 : ∀ t, Steps p.tables e below (s₁.setTop (mkF m 0 #[.val (.ref ra), .val (.int vs), .val (.int vq), .val (.int vo), .unset, .unset] [])) t → Steps p.tables e below (s₁.setTop (entryFrame m #[(.ref ra), (.int vs), (.int vq), (.int vo)] 6)) t := fun t k => castTop (ef_own_mkey m ra vs vq vo) k
  show OGo p e below s (OPure n0 h0 (some (.long (own_key vp vs vq vo)))) ({ frames := 0, cells := 0, slots := 0, locals := 0 } : Room).cells ({ frames := 0, cells := 0, slots := 0, locals := 0 } : Room).slots (s₁.setTop (entryFrame m #[(.ref ra), (.int vs), (.int vq), (.int vo)] 6))
  refine OGo.on pre0 ?_
  show OGo p e below s _ _ _ (s₁.setTop (mkF m 0 #[.val (.ref ra), .val (.int vs), .val (.int vq), .val (.int vo), .unset, .unset] []))
  refine OGo.on (fun t k => XS.lconst X0.here hx rfl (hb hby d6_0) k) ?_
  show OGo p e below s _ _ _ (s₁.setTop (mkF m 1 #[.val (.ref ra), .val (.int vs), .val (.int vq), .val (.int vo), .unset, .unset] [(.long (0 : Int64))]))
  refine OGo.on (fun t k => XS.lstore X0.here hx rfl (hb hby d6_1) rfl (l' := #[.val (.ref ra), .val (.int vs), .val (.int vq), .val (.int vo), .val (.long (0 : Int64)), .second]) rfl k) ?_
  show OGo p e below s _ _ _ (s₁.setTop (mkF m 3 #[.val (.ref ra), .val (.int vs), .val (.int vq), .val (.int vo), .val (.long (0 : Int64)), .second] []))
  refine OGo.on (fun t k => XS.aloadN X0.here hx rfl (hb hby d6_3) rfl rfl k) ?_
  show OGo p e below s _ _ _ (s₁.setTop (mkF m 4 #[.val (.ref ra), .val (.int vs), .val (.int vq), .val (.int vo), .val (.long (0 : Int64)), .second] [(.ref ra)]))
  obtain ⟨T167, X167, e167, st167⟩ := getF X0 hx hZ hown (host := "") (Or.inl (hw _ (List.mem_of_getElem? (i := 35) rfl))) Via.refl e0 F_places_ra (g := (mkF m 4 #[.val (.ref ra), .val (.int vs), .val (.int vq), .val (.int vo), .val (.long (0 : Int64)), .second] [(.ref ra)])) rfl rfl (hb hby d6_4)
  refine OGo.on st167 ?_
  show OGo p e below s _ _ _ (T167.setTop (mkF m 7 #[.val (.ref ra), .val (.int vs), .val (.int vq), .val (.int vo), .val (.long (0 : Int64)), .second] [(.int vp)]))
  refine OGo.on (fun t k => XS.iconst X167.here hx rfl (hb hby d6_7) k) ?_
  show OGo p e below s _ _ _ (T167.setTop (mkF m 8 #[.val (.ref ra), .val (.int vs), .val (.int vq), .val (.int vo), .val (.long (0 : Int64)), .second] [(.int (1 : Int32)), (.int vp)]))
  refine OGo.on (fun t k => XS.iand X167.here hx rfl (hb hby d6_8) rfl k) ?_
  show OGo p e below s _ _ _ (T167.setTop (mkF m 9 #[.val (.ref ra), .val (.int vs), .val (.int vq), .val (.int vo), .val (.long (0 : Int64)), .second] [(.int (vp &&& (1 : Int32)))]))
  by_cases hc168 : (vp &&& (1 : Int32)) = (0 : Int32)
  · refine OGo.on (fun t k => XS.ifYes X167.here hx rfl (pc0 := 9) (pc' := 16) rfl (hb hby d6_9) rfl ((if0 _ _).trans (teq hc168).1) (by decide) (by decide) k) ?_
    show OGo p e below s _ _ _ (T167.setTop (mkF m 16 #[.val (.ref ra), .val (.int vs), .val (.int vq), .val (.int vo), .val (.long (0 : Int64)), .second] []))
    refine OGo.on (fun t k => XS.aloadN X167.here hx rfl (hb hby d6_16) rfl rfl k) ?_
    show OGo p e below s _ _ _ (T167.setTop (mkF m 17 #[.val (.ref ra), .val (.int vs), .val (.int vq), .val (.int vo), .val (.long (0 : Int64)), .second] [(.ref ra)]))
    obtain ⟨T169, X169, e169, st169⟩ := getF X167 hx hZ hown (host := "") (Or.inl (hw _ (List.mem_of_getElem? (i := 35) rfl))) Via.refl e167 F_places_ra (g := (mkF m 17 #[.val (.ref ra), .val (.int vs), .val (.int vq), .val (.int vo), .val (.long (0 : Int64)), .second] [(.ref ra)])) rfl rfl (hb hby d6_17)
    refine OGo.on st169 ?_
    show OGo p e below s _ _ _ (T169.setTop (mkF m 20 #[.val (.ref ra), .val (.int vs), .val (.int vq), .val (.int vo), .val (.long (0 : Int64)), .second] [(.int vp)]))
    refine OGo.on (fun t k => XS.iconst X169.here hx rfl (hb hby d6_20) k) ?_
    show OGo p e below s _ _ _ (T169.setTop (mkF m 21 #[.val (.ref ra), .val (.int vs), .val (.int vq), .val (.int vo), .val (.long (0 : Int64)), .second] [(.int (2 : Int32)), (.int vp)]))
    refine OGo.on (fun t k => XS.iand X169.here hx rfl (hb hby d6_21) rfl k) ?_
    show OGo p e below s _ _ _ (T169.setTop (mkF m 22 #[.val (.ref ra), .val (.int vs), .val (.int vq), .val (.int vo), .val (.long (0 : Int64)), .second] [(.int (vp &&& (2 : Int32)))]))
    by_cases hc170 : (vp &&& (2 : Int32)) = (0 : Int32)
    · refine OGo.on (fun t k => XS.ifYes X169.here hx rfl (pc0 := 22) (pc' := 35) rfl (hb hby d6_22) rfl ((if0 _ _).trans (teq hc170).1) (by decide) (by decide) k) ?_
      show OGo p e below s _ _ _ (T169.setTop (mkF m 35 #[.val (.ref ra), .val (.int vs), .val (.int vq), .val (.int vo), .val (.long (0 : Int64)), .second] []))
      refine OGo.on (fun t k => XS.aloadN X169.here hx rfl (hb hby d6_35) rfl rfl k) ?_
      show OGo p e below s _ _ _ (T169.setTop (mkF m 36 #[.val (.ref ra), .val (.int vs), .val (.int vq), .val (.int vo), .val (.long (0 : Int64)), .second] [(.ref ra)]))
      obtain ⟨T171, X171, e171, st171⟩ := getF X169 hx hZ hown (host := "") (Or.inl (hw _ (List.mem_of_getElem? (i := 35) rfl))) Via.refl e169 F_places_ra (g := (mkF m 36 #[.val (.ref ra), .val (.int vs), .val (.int vq), .val (.int vo), .val (.long (0 : Int64)), .second] [(.ref ra)])) rfl rfl (hb hby d6_36)
      refine OGo.on st171 ?_
      show OGo p e below s _ _ _ (T171.setTop (mkF m 39 #[.val (.ref ra), .val (.int vs), .val (.int vq), .val (.int vo), .val (.long (0 : Int64)), .second] [(.int vp)]))
      refine OGo.on (fun t k => XS.iconst X171.here hx rfl (hb hby d6_39) k) ?_
      show OGo p e below s _ _ _ (T171.setTop (mkF m 40 #[.val (.ref ra), .val (.int vs), .val (.int vq), .val (.int vo), .val (.long (0 : Int64)), .second] [(.int (4 : Int32)), (.int vp)]))
      refine OGo.on (fun t k => XS.iand X171.here hx rfl (hb hby d6_40) rfl k) ?_
      show OGo p e below s _ _ _ (T171.setTop (mkF m 41 #[.val (.ref ra), .val (.int vs), .val (.int vq), .val (.int vo), .val (.long (0 : Int64)), .second] [(.int (vp &&& (4 : Int32)))]))
      by_cases hc172 : (vp &&& (4 : Int32)) = (0 : Int32)
      · refine OGo.on (fun t k => XS.ifYes X171.here hx rfl (pc0 := 41) (pc' := 54) rfl (hb hby d6_41) rfl ((if0 _ _).trans (teq hc172).1) (by decide) (by decide) k) ?_
        show OGo p e below s _ _ _ (T171.setTop (mkF m 54 #[.val (.ref ra), .val (.int vs), .val (.int vq), .val (.int vo), .val (.long (0 : Int64)), .second] []))
        refine OGo.on (fun t k => XS.lload X171.here hx rfl (hb hby d6_54) rfl k) ?_
        show OGo p e below s _ _ _ (T171.setTop (mkF m 56 #[.val (.ref ra), .val (.int vs), .val (.int vq), .val (.int vo), .val (.long (0 : Int64)), .second] [(.long (0 : Int64))]))
        exact OGo.retJ X171 hx hret hlk (hb hby d6_56) (opJ (by unfold own_key; simp only [hc168, hc170, hc172, if_true, if_false] <;> rfl) N0 e171) (by decide) (by decide)
      · refine OGo.on (fun t k => XS.ifNo X171.here hx rfl (hb hby d6_41) rfl ((if0 _ _).trans (feq hc172).1) k) ?_
        show OGo p e below s _ _ _ (T171.setTop (mkF m 44 #[.val (.ref ra), .val (.int vs), .val (.int vq), .val (.int vo), .val (.long (0 : Int64)), .second] []))
        refine OGo.on (fun t k => XS.lload X171.here hx rfl (hb hby d6_44) rfl k) ?_
        show OGo p e below s _ _ _ (T171.setTop (mkF m 46 #[.val (.ref ra), .val (.int vs), .val (.int vq), .val (.int vo), .val (.long (0 : Int64)), .second] [(.long (0 : Int64))]))
        refine OGo.on (fun t k => XS.bipush X171.here hx rfl (hb hby d6_46) k) ?_
        show OGo p e below s _ _ _ (T171.setTop (mkF m 48 #[.val (.ref ra), .val (.int vs), .val (.int vq), .val (.int vo), .val (.long (0 : Int64)), .second] [(.int (32 : Int32)), (.long (0 : Int64))]))
        refine OGo.on (fun t k => XS.lshl X171.here hx rfl (hb hby d6_48) rfl k) ?_
        show OGo p e below s _ _ _ (T171.setTop (mkF m 49 #[.val (.ref ra), .val (.int vs), .val (.int vq), .val (.int vo), .val (.long (0 : Int64)), .second] [(.long (0 : Int64))]))
        refine OGo.on (fun t k => XS.iloadN X171.here hx rfl (hb hby d6_49) rfl k) ?_
        show OGo p e below s _ _ _ (T171.setTop (mkF m 50 #[.val (.ref ra), .val (.int vs), .val (.int vq), .val (.int vo), .val (.long (0 : Int64)), .second] [(.int vo), (.long (0 : Int64))]))
        refine OGo.on (fun t k => XS.i2l X171.here hx rfl (hb hby d6_50) rfl k) ?_
        show OGo p e below s _ _ _ (T171.setTop (mkF m 51 #[.val (.ref ra), .val (.int vs), .val (.int vq), .val (.int vo), .val (.long (0 : Int64)), .second] [(.long (vo.toInt64)), (.long (0 : Int64))]))
        refine OGo.on (fun t k => XS.lor X171.here hx rfl (hb hby d6_51) rfl k) ?_
        show OGo p e below s _ _ _ (T171.setTop (mkF m 52 #[.val (.ref ra), .val (.int vs), .val (.int vq), .val (.int vo), .val (.long (0 : Int64)), .second] [(.long ((0 : Int64) ||| (vo.toInt64)))]))
        refine OGo.on (fun t k => XS.lstore X171.here hx rfl (hb hby d6_52) rfl (l' := #[.val (.ref ra), .val (.int vs), .val (.int vq), .val (.int vo), .val (.long ((0 : Int64) ||| (vo.toInt64))), .second]) rfl k) ?_
        show OGo p e below s _ _ _ (T171.setTop (mkF m 54 #[.val (.ref ra), .val (.int vs), .val (.int vq), .val (.int vo), .val (.long ((0 : Int64) ||| (vo.toInt64))), .second] []))
        refine OGo.on (fun t k => XS.lload X171.here hx rfl (hb hby d6_54) rfl k) ?_
        show OGo p e below s _ _ _ (T171.setTop (mkF m 56 #[.val (.ref ra), .val (.int vs), .val (.int vq), .val (.int vo), .val (.long ((0 : Int64) ||| (vo.toInt64))), .second] [(.long ((0 : Int64) ||| (vo.toInt64)))]))
        exact OGo.retJ X171 hx hret hlk (hb hby d6_56) (opJ (by unfold own_key; simp only [hc168, hc170, hc172, if_true, if_false] <;> rfl) N0 e171) (by decide) (by decide)
    · refine OGo.on (fun t k => XS.ifNo X169.here hx rfl (hb hby d6_22) rfl ((if0 _ _).trans (feq hc170).1) k) ?_
      show OGo p e below s _ _ _ (T169.setTop (mkF m 25 #[.val (.ref ra), .val (.int vs), .val (.int vq), .val (.int vo), .val (.long (0 : Int64)), .second] []))
      refine OGo.on (fun t k => XS.lload X169.here hx rfl (hb hby d6_25) rfl k) ?_
      show OGo p e below s _ _ _ (T169.setTop (mkF m 27 #[.val (.ref ra), .val (.int vs), .val (.int vq), .val (.int vo), .val (.long (0 : Int64)), .second] [(.long (0 : Int64))]))
      refine OGo.on (fun t k => XS.bipush X169.here hx rfl (hb hby d6_27) k) ?_
      show OGo p e below s _ _ _ (T169.setTop (mkF m 29 #[.val (.ref ra), .val (.int vs), .val (.int vq), .val (.int vo), .val (.long (0 : Int64)), .second] [(.int (32 : Int32)), (.long (0 : Int64))]))
      refine OGo.on (fun t k => XS.lshl X169.here hx rfl (hb hby d6_29) rfl k) ?_
      show OGo p e below s _ _ _ (T169.setTop (mkF m 30 #[.val (.ref ra), .val (.int vs), .val (.int vq), .val (.int vo), .val (.long (0 : Int64)), .second] [(.long (0 : Int64))]))
      refine OGo.on (fun t k => XS.iloadN X169.here hx rfl (hb hby d6_30) rfl k) ?_
      show OGo p e below s _ _ _ (T169.setTop (mkF m 31 #[.val (.ref ra), .val (.int vs), .val (.int vq), .val (.int vo), .val (.long (0 : Int64)), .second] [(.int vq), (.long (0 : Int64))]))
      refine OGo.on (fun t k => XS.i2l X169.here hx rfl (hb hby d6_31) rfl k) ?_
      show OGo p e below s _ _ _ (T169.setTop (mkF m 32 #[.val (.ref ra), .val (.int vs), .val (.int vq), .val (.int vo), .val (.long (0 : Int64)), .second] [(.long (vq.toInt64)), (.long (0 : Int64))]))
      refine OGo.on (fun t k => XS.lor X169.here hx rfl (hb hby d6_32) rfl k) ?_
      show OGo p e below s _ _ _ (T169.setTop (mkF m 33 #[.val (.ref ra), .val (.int vs), .val (.int vq), .val (.int vo), .val (.long (0 : Int64)), .second] [(.long ((0 : Int64) ||| (vq.toInt64)))]))
      refine OGo.on (fun t k => XS.lstore X169.here hx rfl (hb hby d6_33) rfl (l' := #[.val (.ref ra), .val (.int vs), .val (.int vq), .val (.int vo), .val (.long ((0 : Int64) ||| (vq.toInt64))), .second]) rfl k) ?_
      show OGo p e below s _ _ _ (T169.setTop (mkF m 35 #[.val (.ref ra), .val (.int vs), .val (.int vq), .val (.int vo), .val (.long ((0 : Int64) ||| (vq.toInt64))), .second] []))
      refine OGo.on (fun t k => XS.aloadN X169.here hx rfl (hb hby d6_35) rfl rfl k) ?_
      show OGo p e below s _ _ _ (T169.setTop (mkF m 36 #[.val (.ref ra), .val (.int vs), .val (.int vq), .val (.int vo), .val (.long ((0 : Int64) ||| (vq.toInt64))), .second] [(.ref ra)]))
      obtain ⟨T173, X173, e173, st173⟩ := getF X169 hx hZ hown (host := "") (Or.inl (hw _ (List.mem_of_getElem? (i := 35) rfl))) Via.refl e169 F_places_ra (g := (mkF m 36 #[.val (.ref ra), .val (.int vs), .val (.int vq), .val (.int vo), .val (.long ((0 : Int64) ||| (vq.toInt64))), .second] [(.ref ra)])) rfl rfl (hb hby d6_36)
      refine OGo.on st173 ?_
      show OGo p e below s _ _ _ (T173.setTop (mkF m 39 #[.val (.ref ra), .val (.int vs), .val (.int vq), .val (.int vo), .val (.long ((0 : Int64) ||| (vq.toInt64))), .second] [(.int vp)]))
      refine OGo.on (fun t k => XS.iconst X173.here hx rfl (hb hby d6_39) k) ?_
      show OGo p e below s _ _ _ (T173.setTop (mkF m 40 #[.val (.ref ra), .val (.int vs), .val (.int vq), .val (.int vo), .val (.long ((0 : Int64) ||| (vq.toInt64))), .second] [(.int (4 : Int32)), (.int vp)]))
      refine OGo.on (fun t k => XS.iand X173.here hx rfl (hb hby d6_40) rfl k) ?_
      show OGo p e below s _ _ _ (T173.setTop (mkF m 41 #[.val (.ref ra), .val (.int vs), .val (.int vq), .val (.int vo), .val (.long ((0 : Int64) ||| (vq.toInt64))), .second] [(.int (vp &&& (4 : Int32)))]))
      by_cases hc174 : (vp &&& (4 : Int32)) = (0 : Int32)
      · refine OGo.on (fun t k => XS.ifYes X173.here hx rfl (pc0 := 41) (pc' := 54) rfl (hb hby d6_41) rfl ((if0 _ _).trans (teq hc174).1) (by decide) (by decide) k) ?_
        show OGo p e below s _ _ _ (T173.setTop (mkF m 54 #[.val (.ref ra), .val (.int vs), .val (.int vq), .val (.int vo), .val (.long ((0 : Int64) ||| (vq.toInt64))), .second] []))
        refine OGo.on (fun t k => XS.lload X173.here hx rfl (hb hby d6_54) rfl k) ?_
        show OGo p e below s _ _ _ (T173.setTop (mkF m 56 #[.val (.ref ra), .val (.int vs), .val (.int vq), .val (.int vo), .val (.long ((0 : Int64) ||| (vq.toInt64))), .second] [(.long ((0 : Int64) ||| (vq.toInt64)))]))
        exact OGo.retJ X173 hx hret hlk (hb hby d6_56) (opJ (by unfold own_key; simp only [hc168, hc170, hc174, if_true, if_false] <;> rfl) N0 e173) (by decide) (by decide)
      · refine OGo.on (fun t k => XS.ifNo X173.here hx rfl (hb hby d6_41) rfl ((if0 _ _).trans (feq hc174).1) k) ?_
        show OGo p e below s _ _ _ (T173.setTop (mkF m 44 #[.val (.ref ra), .val (.int vs), .val (.int vq), .val (.int vo), .val (.long ((0 : Int64) ||| (vq.toInt64))), .second] []))
        refine OGo.on (fun t k => XS.lload X173.here hx rfl (hb hby d6_44) rfl k) ?_
        show OGo p e below s _ _ _ (T173.setTop (mkF m 46 #[.val (.ref ra), .val (.int vs), .val (.int vq), .val (.int vo), .val (.long ((0 : Int64) ||| (vq.toInt64))), .second] [(.long ((0 : Int64) ||| (vq.toInt64)))]))
        refine OGo.on (fun t k => XS.bipush X173.here hx rfl (hb hby d6_46) k) ?_
        show OGo p e below s _ _ _ (T173.setTop (mkF m 48 #[.val (.ref ra), .val (.int vs), .val (.int vq), .val (.int vo), .val (.long ((0 : Int64) ||| (vq.toInt64))), .second] [(.int (32 : Int32)), (.long ((0 : Int64) ||| (vq.toInt64)))]))
        refine OGo.on (fun t k => XS.lshl X173.here hx rfl (hb hby d6_48) rfl k) ?_
        show OGo p e below s _ _ _ (T173.setTop (mkF m 49 #[.val (.ref ra), .val (.int vs), .val (.int vq), .val (.int vo), .val (.long ((0 : Int64) ||| (vq.toInt64))), .second] [(.long (((0 : Int64) ||| (vq.toInt64)) <<< ((32 : Int32) &&& 0x3f).toInt64))]))
        refine OGo.on (fun t k => XS.iloadN X173.here hx rfl (hb hby d6_49) rfl k) ?_
        show OGo p e below s _ _ _ (T173.setTop (mkF m 50 #[.val (.ref ra), .val (.int vs), .val (.int vq), .val (.int vo), .val (.long ((0 : Int64) ||| (vq.toInt64))), .second] [(.int vo), (.long (((0 : Int64) ||| (vq.toInt64)) <<< ((32 : Int32) &&& 0x3f).toInt64))]))
        refine OGo.on (fun t k => XS.i2l X173.here hx rfl (hb hby d6_50) rfl k) ?_
        show OGo p e below s _ _ _ (T173.setTop (mkF m 51 #[.val (.ref ra), .val (.int vs), .val (.int vq), .val (.int vo), .val (.long ((0 : Int64) ||| (vq.toInt64))), .second] [(.long (vo.toInt64)), (.long (((0 : Int64) ||| (vq.toInt64)) <<< ((32 : Int32) &&& 0x3f).toInt64))]))
        refine OGo.on (fun t k => XS.lor X173.here hx rfl (hb hby d6_51) rfl k) ?_
        show OGo p e below s _ _ _ (T173.setTop (mkF m 52 #[.val (.ref ra), .val (.int vs), .val (.int vq), .val (.int vo), .val (.long ((0 : Int64) ||| (vq.toInt64))), .second] [(.long ((((0 : Int64) ||| (vq.toInt64)) <<< ((32 : Int32) &&& 0x3f).toInt64) ||| (vo.toInt64)))]))
        refine OGo.on (fun t k => XS.lstore X173.here hx rfl (hb hby d6_52) rfl (l' := #[.val (.ref ra), .val (.int vs), .val (.int vq), .val (.int vo), .val (.long ((((0 : Int64) ||| (vq.toInt64)) <<< ((32 : Int32) &&& 0x3f).toInt64) ||| (vo.toInt64))), .second]) rfl k) ?_
        show OGo p e below s _ _ _ (T173.setTop (mkF m 54 #[.val (.ref ra), .val (.int vs), .val (.int vq), .val (.int vo), .val (.long ((((0 : Int64) ||| (vq.toInt64)) <<< ((32 : Int32) &&& 0x3f).toInt64) ||| (vo.toInt64))), .second] []))
        refine OGo.on (fun t k => XS.lload X173.here hx rfl (hb hby d6_54) rfl k) ?_
        show OGo p e below s _ _ _ (T173.setTop (mkF m 56 #[.val (.ref ra), .val (.int vs), .val (.int vq), .val (.int vo), .val (.long ((((0 : Int64) ||| (vq.toInt64)) <<< ((32 : Int32) &&& 0x3f).toInt64) ||| (vo.toInt64))), .second] [(.long ((((0 : Int64) ||| (vq.toInt64)) <<< ((32 : Int32) &&& 0x3f).toInt64) ||| (vo.toInt64)))]))
        exact OGo.retJ X173 hx hret hlk (hb hby d6_56) (opJ (by unfold own_key; simp only [hc168, hc170, hc174, if_true, if_false] <;> rfl) N0 e173) (by decide) (by decide)
  · refine OGo.on (fun t k => XS.ifNo X167.here hx rfl (hb hby d6_9) rfl ((if0 _ _).trans (feq hc168).1) k) ?_
    show OGo p e below s _ _ _ (T167.setTop (mkF m 12 #[.val (.ref ra), .val (.int vs), .val (.int vq), .val (.int vo), .val (.long (0 : Int64)), .second] []))
    refine OGo.on (fun t k => XS.iloadN X167.here hx rfl (hb hby d6_12) rfl k) ?_
    show OGo p e below s _ _ _ (T167.setTop (mkF m 13 #[.val (.ref ra), .val (.int vs), .val (.int vq), .val (.int vo), .val (.long (0 : Int64)), .second] [(.int vs)]))
    refine OGo.on (fun t k => XS.i2l X167.here hx rfl (hb hby d6_13) rfl k) ?_
    show OGo p e below s _ _ _ (T167.setTop (mkF m 14 #[.val (.ref ra), .val (.int vs), .val (.int vq), .val (.int vo), .val (.long (0 : Int64)), .second] [(.long (vs.toInt64))]))
    refine OGo.on (fun t k => XS.lstore X167.here hx rfl (hb hby d6_14) rfl (l' := #[.val (.ref ra), .val (.int vs), .val (.int vq), .val (.int vo), .val (.long (vs.toInt64)), .second]) rfl k) ?_
    show OGo p e below s _ _ _ (T167.setTop (mkF m 16 #[.val (.ref ra), .val (.int vs), .val (.int vq), .val (.int vo), .val (.long (vs.toInt64)), .second] []))
    refine OGo.on (fun t k => XS.aloadN X167.here hx rfl (hb hby d6_16) rfl rfl k) ?_
    show OGo p e below s _ _ _ (T167.setTop (mkF m 17 #[.val (.ref ra), .val (.int vs), .val (.int vq), .val (.int vo), .val (.long (vs.toInt64)), .second] [(.ref ra)]))
    obtain ⟨T175, X175, e175, st175⟩ := getF X167 hx hZ hown (host := "") (Or.inl (hw _ (List.mem_of_getElem? (i := 35) rfl))) Via.refl e167 F_places_ra (g := (mkF m 17 #[.val (.ref ra), .val (.int vs), .val (.int vq), .val (.int vo), .val (.long (vs.toInt64)), .second] [(.ref ra)])) rfl rfl (hb hby d6_17)
    refine OGo.on st175 ?_
    show OGo p e below s _ _ _ (T175.setTop (mkF m 20 #[.val (.ref ra), .val (.int vs), .val (.int vq), .val (.int vo), .val (.long (vs.toInt64)), .second] [(.int vp)]))
    refine OGo.on (fun t k => XS.iconst X175.here hx rfl (hb hby d6_20) k) ?_
    show OGo p e below s _ _ _ (T175.setTop (mkF m 21 #[.val (.ref ra), .val (.int vs), .val (.int vq), .val (.int vo), .val (.long (vs.toInt64)), .second] [(.int (2 : Int32)), (.int vp)]))
    refine OGo.on (fun t k => XS.iand X175.here hx rfl (hb hby d6_21) rfl k) ?_
    show OGo p e below s _ _ _ (T175.setTop (mkF m 22 #[.val (.ref ra), .val (.int vs), .val (.int vq), .val (.int vo), .val (.long (vs.toInt64)), .second] [(.int (vp &&& (2 : Int32)))]))
    by_cases hc176 : (vp &&& (2 : Int32)) = (0 : Int32)
    · refine OGo.on (fun t k => XS.ifYes X175.here hx rfl (pc0 := 22) (pc' := 35) rfl (hb hby d6_22) rfl ((if0 _ _).trans (teq hc176).1) (by decide) (by decide) k) ?_
      show OGo p e below s _ _ _ (T175.setTop (mkF m 35 #[.val (.ref ra), .val (.int vs), .val (.int vq), .val (.int vo), .val (.long (vs.toInt64)), .second] []))
      refine OGo.on (fun t k => XS.aloadN X175.here hx rfl (hb hby d6_35) rfl rfl k) ?_
      show OGo p e below s _ _ _ (T175.setTop (mkF m 36 #[.val (.ref ra), .val (.int vs), .val (.int vq), .val (.int vo), .val (.long (vs.toInt64)), .second] [(.ref ra)]))
      obtain ⟨T177, X177, e177, st177⟩ := getF X175 hx hZ hown (host := "") (Or.inl (hw _ (List.mem_of_getElem? (i := 35) rfl))) Via.refl e175 F_places_ra (g := (mkF m 36 #[.val (.ref ra), .val (.int vs), .val (.int vq), .val (.int vo), .val (.long (vs.toInt64)), .second] [(.ref ra)])) rfl rfl (hb hby d6_36)
      refine OGo.on st177 ?_
      show OGo p e below s _ _ _ (T177.setTop (mkF m 39 #[.val (.ref ra), .val (.int vs), .val (.int vq), .val (.int vo), .val (.long (vs.toInt64)), .second] [(.int vp)]))
      refine OGo.on (fun t k => XS.iconst X177.here hx rfl (hb hby d6_39) k) ?_
      show OGo p e below s _ _ _ (T177.setTop (mkF m 40 #[.val (.ref ra), .val (.int vs), .val (.int vq), .val (.int vo), .val (.long (vs.toInt64)), .second] [(.int (4 : Int32)), (.int vp)]))
      refine OGo.on (fun t k => XS.iand X177.here hx rfl (hb hby d6_40) rfl k) ?_
      show OGo p e below s _ _ _ (T177.setTop (mkF m 41 #[.val (.ref ra), .val (.int vs), .val (.int vq), .val (.int vo), .val (.long (vs.toInt64)), .second] [(.int (vp &&& (4 : Int32)))]))
      by_cases hc178 : (vp &&& (4 : Int32)) = (0 : Int32)
      · refine OGo.on (fun t k => XS.ifYes X177.here hx rfl (pc0 := 41) (pc' := 54) rfl (hb hby d6_41) rfl ((if0 _ _).trans (teq hc178).1) (by decide) (by decide) k) ?_
        show OGo p e below s _ _ _ (T177.setTop (mkF m 54 #[.val (.ref ra), .val (.int vs), .val (.int vq), .val (.int vo), .val (.long (vs.toInt64)), .second] []))
        refine OGo.on (fun t k => XS.lload X177.here hx rfl (hb hby d6_54) rfl k) ?_
        show OGo p e below s _ _ _ (T177.setTop (mkF m 56 #[.val (.ref ra), .val (.int vs), .val (.int vq), .val (.int vo), .val (.long (vs.toInt64)), .second] [(.long (vs.toInt64))]))
        exact OGo.retJ X177 hx hret hlk (hb hby d6_56) (opJ (by unfold own_key; simp only [hc168, hc176, hc178, if_true, if_false] <;> rfl) N0 e177) (by decide) (by decide)
      · refine OGo.on (fun t k => XS.ifNo X177.here hx rfl (hb hby d6_41) rfl ((if0 _ _).trans (feq hc178).1) k) ?_
        show OGo p e below s _ _ _ (T177.setTop (mkF m 44 #[.val (.ref ra), .val (.int vs), .val (.int vq), .val (.int vo), .val (.long (vs.toInt64)), .second] []))
        refine OGo.on (fun t k => XS.lload X177.here hx rfl (hb hby d6_44) rfl k) ?_
        show OGo p e below s _ _ _ (T177.setTop (mkF m 46 #[.val (.ref ra), .val (.int vs), .val (.int vq), .val (.int vo), .val (.long (vs.toInt64)), .second] [(.long (vs.toInt64))]))
        refine OGo.on (fun t k => XS.bipush X177.here hx rfl (hb hby d6_46) k) ?_
        show OGo p e below s _ _ _ (T177.setTop (mkF m 48 #[.val (.ref ra), .val (.int vs), .val (.int vq), .val (.int vo), .val (.long (vs.toInt64)), .second] [(.int (32 : Int32)), (.long (vs.toInt64))]))
        refine OGo.on (fun t k => XS.lshl X177.here hx rfl (hb hby d6_48) rfl k) ?_
        show OGo p e below s _ _ _ (T177.setTop (mkF m 49 #[.val (.ref ra), .val (.int vs), .val (.int vq), .val (.int vo), .val (.long (vs.toInt64)), .second] [(.long ((vs.toInt64) <<< ((32 : Int32) &&& 0x3f).toInt64))]))
        refine OGo.on (fun t k => XS.iloadN X177.here hx rfl (hb hby d6_49) rfl k) ?_
        show OGo p e below s _ _ _ (T177.setTop (mkF m 50 #[.val (.ref ra), .val (.int vs), .val (.int vq), .val (.int vo), .val (.long (vs.toInt64)), .second] [(.int vo), (.long ((vs.toInt64) <<< ((32 : Int32) &&& 0x3f).toInt64))]))
        refine OGo.on (fun t k => XS.i2l X177.here hx rfl (hb hby d6_50) rfl k) ?_
        show OGo p e below s _ _ _ (T177.setTop (mkF m 51 #[.val (.ref ra), .val (.int vs), .val (.int vq), .val (.int vo), .val (.long (vs.toInt64)), .second] [(.long (vo.toInt64)), (.long ((vs.toInt64) <<< ((32 : Int32) &&& 0x3f).toInt64))]))
        refine OGo.on (fun t k => XS.lor X177.here hx rfl (hb hby d6_51) rfl k) ?_
        show OGo p e below s _ _ _ (T177.setTop (mkF m 52 #[.val (.ref ra), .val (.int vs), .val (.int vq), .val (.int vo), .val (.long (vs.toInt64)), .second] [(.long (((vs.toInt64) <<< ((32 : Int32) &&& 0x3f).toInt64) ||| (vo.toInt64)))]))
        refine OGo.on (fun t k => XS.lstore X177.here hx rfl (hb hby d6_52) rfl (l' := #[.val (.ref ra), .val (.int vs), .val (.int vq), .val (.int vo), .val (.long (((vs.toInt64) <<< ((32 : Int32) &&& 0x3f).toInt64) ||| (vo.toInt64))), .second]) rfl k) ?_
        show OGo p e below s _ _ _ (T177.setTop (mkF m 54 #[.val (.ref ra), .val (.int vs), .val (.int vq), .val (.int vo), .val (.long (((vs.toInt64) <<< ((32 : Int32) &&& 0x3f).toInt64) ||| (vo.toInt64))), .second] []))
        refine OGo.on (fun t k => XS.lload X177.here hx rfl (hb hby d6_54) rfl k) ?_
        show OGo p e below s _ _ _ (T177.setTop (mkF m 56 #[.val (.ref ra), .val (.int vs), .val (.int vq), .val (.int vo), .val (.long (((vs.toInt64) <<< ((32 : Int32) &&& 0x3f).toInt64) ||| (vo.toInt64))), .second] [(.long (((vs.toInt64) <<< ((32 : Int32) &&& 0x3f).toInt64) ||| (vo.toInt64)))]))
        exact OGo.retJ X177 hx hret hlk (hb hby d6_56) (opJ (by unfold own_key; simp only [hc168, hc176, hc178, if_true, if_false] <;> rfl) N0 e177) (by decide) (by decide)
    · refine OGo.on (fun t k => XS.ifNo X175.here hx rfl (hb hby d6_22) rfl ((if0 _ _).trans (feq hc176).1) k) ?_
      show OGo p e below s _ _ _ (T175.setTop (mkF m 25 #[.val (.ref ra), .val (.int vs), .val (.int vq), .val (.int vo), .val (.long (vs.toInt64)), .second] []))
      refine OGo.on (fun t k => XS.lload X175.here hx rfl (hb hby d6_25) rfl k) ?_
      show OGo p e below s _ _ _ (T175.setTop (mkF m 27 #[.val (.ref ra), .val (.int vs), .val (.int vq), .val (.int vo), .val (.long (vs.toInt64)), .second] [(.long (vs.toInt64))]))
      refine OGo.on (fun t k => XS.bipush X175.here hx rfl (hb hby d6_27) k) ?_
      show OGo p e below s _ _ _ (T175.setTop (mkF m 29 #[.val (.ref ra), .val (.int vs), .val (.int vq), .val (.int vo), .val (.long (vs.toInt64)), .second] [(.int (32 : Int32)), (.long (vs.toInt64))]))
      refine OGo.on (fun t k => XS.lshl X175.here hx rfl (hb hby d6_29) rfl k) ?_
      show OGo p e below s _ _ _ (T175.setTop (mkF m 30 #[.val (.ref ra), .val (.int vs), .val (.int vq), .val (.int vo), .val (.long (vs.toInt64)), .second] [(.long ((vs.toInt64) <<< ((32 : Int32) &&& 0x3f).toInt64))]))
      refine OGo.on (fun t k => XS.iloadN X175.here hx rfl (hb hby d6_30) rfl k) ?_
      show OGo p e below s _ _ _ (T175.setTop (mkF m 31 #[.val (.ref ra), .val (.int vs), .val (.int vq), .val (.int vo), .val (.long (vs.toInt64)), .second] [(.int vq), (.long ((vs.toInt64) <<< ((32 : Int32) &&& 0x3f).toInt64))]))
      refine OGo.on (fun t k => XS.i2l X175.here hx rfl (hb hby d6_31) rfl k) ?_
      show OGo p e below s _ _ _ (T175.setTop (mkF m 32 #[.val (.ref ra), .val (.int vs), .val (.int vq), .val (.int vo), .val (.long (vs.toInt64)), .second] [(.long (vq.toInt64)), (.long ((vs.toInt64) <<< ((32 : Int32) &&& 0x3f).toInt64))]))
      refine OGo.on (fun t k => XS.lor X175.here hx rfl (hb hby d6_32) rfl k) ?_
      show OGo p e below s _ _ _ (T175.setTop (mkF m 33 #[.val (.ref ra), .val (.int vs), .val (.int vq), .val (.int vo), .val (.long (vs.toInt64)), .second] [(.long (((vs.toInt64) <<< ((32 : Int32) &&& 0x3f).toInt64) ||| (vq.toInt64)))]))
      refine OGo.on (fun t k => XS.lstore X175.here hx rfl (hb hby d6_33) rfl (l' := #[.val (.ref ra), .val (.int vs), .val (.int vq), .val (.int vo), .val (.long (((vs.toInt64) <<< ((32 : Int32) &&& 0x3f).toInt64) ||| (vq.toInt64))), .second]) rfl k) ?_
      show OGo p e below s _ _ _ (T175.setTop (mkF m 35 #[.val (.ref ra), .val (.int vs), .val (.int vq), .val (.int vo), .val (.long (((vs.toInt64) <<< ((32 : Int32) &&& 0x3f).toInt64) ||| (vq.toInt64))), .second] []))
      refine OGo.on (fun t k => XS.aloadN X175.here hx rfl (hb hby d6_35) rfl rfl k) ?_
      show OGo p e below s _ _ _ (T175.setTop (mkF m 36 #[.val (.ref ra), .val (.int vs), .val (.int vq), .val (.int vo), .val (.long (((vs.toInt64) <<< ((32 : Int32) &&& 0x3f).toInt64) ||| (vq.toInt64))), .second] [(.ref ra)]))
      obtain ⟨T179, X179, e179, st179⟩ := getF X175 hx hZ hown (host := "") (Or.inl (hw _ (List.mem_of_getElem? (i := 35) rfl))) Via.refl e175 F_places_ra (g := (mkF m 36 #[.val (.ref ra), .val (.int vs), .val (.int vq), .val (.int vo), .val (.long (((vs.toInt64) <<< ((32 : Int32) &&& 0x3f).toInt64) ||| (vq.toInt64))), .second] [(.ref ra)])) rfl rfl (hb hby d6_36)
      refine OGo.on st179 ?_
      show OGo p e below s _ _ _ (T179.setTop (mkF m 39 #[.val (.ref ra), .val (.int vs), .val (.int vq), .val (.int vo), .val (.long (((vs.toInt64) <<< ((32 : Int32) &&& 0x3f).toInt64) ||| (vq.toInt64))), .second] [(.int vp)]))
      refine OGo.on (fun t k => XS.iconst X179.here hx rfl (hb hby d6_39) k) ?_
      show OGo p e below s _ _ _ (T179.setTop (mkF m 40 #[.val (.ref ra), .val (.int vs), .val (.int vq), .val (.int vo), .val (.long (((vs.toInt64) <<< ((32 : Int32) &&& 0x3f).toInt64) ||| (vq.toInt64))), .second] [(.int (4 : Int32)), (.int vp)]))
      refine OGo.on (fun t k => XS.iand X179.here hx rfl (hb hby d6_40) rfl k) ?_
      show OGo p e below s _ _ _ (T179.setTop (mkF m 41 #[.val (.ref ra), .val (.int vs), .val (.int vq), .val (.int vo), .val (.long (((vs.toInt64) <<< ((32 : Int32) &&& 0x3f).toInt64) ||| (vq.toInt64))), .second] [(.int (vp &&& (4 : Int32)))]))
      by_cases hc180 : (vp &&& (4 : Int32)) = (0 : Int32)
      · refine OGo.on (fun t k => XS.ifYes X179.here hx rfl (pc0 := 41) (pc' := 54) rfl (hb hby d6_41) rfl ((if0 _ _).trans (teq hc180).1) (by decide) (by decide) k) ?_
        show OGo p e below s _ _ _ (T179.setTop (mkF m 54 #[.val (.ref ra), .val (.int vs), .val (.int vq), .val (.int vo), .val (.long (((vs.toInt64) <<< ((32 : Int32) &&& 0x3f).toInt64) ||| (vq.toInt64))), .second] []))
        refine OGo.on (fun t k => XS.lload X179.here hx rfl (hb hby d6_54) rfl k) ?_
        show OGo p e below s _ _ _ (T179.setTop (mkF m 56 #[.val (.ref ra), .val (.int vs), .val (.int vq), .val (.int vo), .val (.long (((vs.toInt64) <<< ((32 : Int32) &&& 0x3f).toInt64) ||| (vq.toInt64))), .second] [(.long (((vs.toInt64) <<< ((32 : Int32) &&& 0x3f).toInt64) ||| (vq.toInt64)))]))
        exact OGo.retJ X179 hx hret hlk (hb hby d6_56) (opJ (by unfold own_key; simp only [hc168, hc176, hc180, if_true, if_false] <;> rfl) N0 e179) (by decide) (by decide)
      · refine OGo.on (fun t k => XS.ifNo X179.here hx rfl (hb hby d6_41) rfl ((if0 _ _).trans (feq hc180).1) k) ?_
        show OGo p e below s _ _ _ (T179.setTop (mkF m 44 #[.val (.ref ra), .val (.int vs), .val (.int vq), .val (.int vo), .val (.long (((vs.toInt64) <<< ((32 : Int32) &&& 0x3f).toInt64) ||| (vq.toInt64))), .second] []))
        refine OGo.on (fun t k => XS.lload X179.here hx rfl (hb hby d6_44) rfl k) ?_
        show OGo p e below s _ _ _ (T179.setTop (mkF m 46 #[.val (.ref ra), .val (.int vs), .val (.int vq), .val (.int vo), .val (.long (((vs.toInt64) <<< ((32 : Int32) &&& 0x3f).toInt64) ||| (vq.toInt64))), .second] [(.long (((vs.toInt64) <<< ((32 : Int32) &&& 0x3f).toInt64) ||| (vq.toInt64)))]))
        refine OGo.on (fun t k => XS.bipush X179.here hx rfl (hb hby d6_46) k) ?_
        show OGo p e below s _ _ _ (T179.setTop (mkF m 48 #[.val (.ref ra), .val (.int vs), .val (.int vq), .val (.int vo), .val (.long (((vs.toInt64) <<< ((32 : Int32) &&& 0x3f).toInt64) ||| (vq.toInt64))), .second] [(.int (32 : Int32)), (.long (((vs.toInt64) <<< ((32 : Int32) &&& 0x3f).toInt64) ||| (vq.toInt64)))]))
        refine OGo.on (fun t k => XS.lshl X179.here hx rfl (hb hby d6_48) rfl k) ?_
        show OGo p e below s _ _ _ (T179.setTop (mkF m 49 #[.val (.ref ra), .val (.int vs), .val (.int vq), .val (.int vo), .val (.long (((vs.toInt64) <<< ((32 : Int32) &&& 0x3f).toInt64) ||| (vq.toInt64))), .second] [(.long ((((vs.toInt64) <<< ((32 : Int32) &&& 0x3f).toInt64) ||| (vq.toInt64)) <<< ((32 : Int32) &&& 0x3f).toInt64))]))
        refine OGo.on (fun t k => XS.iloadN X179.here hx rfl (hb hby d6_49) rfl k) ?_
        show OGo p e below s _ _ _ (T179.setTop (mkF m 50 #[.val (.ref ra), .val (.int vs), .val (.int vq), .val (.int vo), .val (.long (((vs.toInt64) <<< ((32 : Int32) &&& 0x3f).toInt64) ||| (vq.toInt64))), .second] [(.int vo), (.long ((((vs.toInt64) <<< ((32 : Int32) &&& 0x3f).toInt64) ||| (vq.toInt64)) <<< ((32 : Int32) &&& 0x3f).toInt64))]))
        refine OGo.on (fun t k => XS.i2l X179.here hx rfl (hb hby d6_50) rfl k) ?_
        show OGo p e below s _ _ _ (T179.setTop (mkF m 51 #[.val (.ref ra), .val (.int vs), .val (.int vq), .val (.int vo), .val (.long (((vs.toInt64) <<< ((32 : Int32) &&& 0x3f).toInt64) ||| (vq.toInt64))), .second] [(.long (vo.toInt64)), (.long ((((vs.toInt64) <<< ((32 : Int32) &&& 0x3f).toInt64) ||| (vq.toInt64)) <<< ((32 : Int32) &&& 0x3f).toInt64))]))
        refine OGo.on (fun t k => XS.lor X179.here hx rfl (hb hby d6_51) rfl k) ?_
        show OGo p e below s _ _ _ (T179.setTop (mkF m 52 #[.val (.ref ra), .val (.int vs), .val (.int vq), .val (.int vo), .val (.long (((vs.toInt64) <<< ((32 : Int32) &&& 0x3f).toInt64) ||| (vq.toInt64))), .second] [(.long (((((vs.toInt64) <<< ((32 : Int32) &&& 0x3f).toInt64) ||| (vq.toInt64)) <<< ((32 : Int32) &&& 0x3f).toInt64) ||| (vo.toInt64)))]))
        refine OGo.on (fun t k => XS.lstore X179.here hx rfl (hb hby d6_52) rfl (l' := #[.val (.ref ra), .val (.int vs), .val (.int vq), .val (.int vo), .val (.long (((((vs.toInt64) <<< ((32 : Int32) &&& 0x3f).toInt64) ||| (vq.toInt64)) <<< ((32 : Int32) &&& 0x3f).toInt64) ||| (vo.toInt64))), .second]) rfl k) ?_
        show OGo p e below s _ _ _ (T179.setTop (mkF m 54 #[.val (.ref ra), .val (.int vs), .val (.int vq), .val (.int vo), .val (.long (((((vs.toInt64) <<< ((32 : Int32) &&& 0x3f).toInt64) ||| (vq.toInt64)) <<< ((32 : Int32) &&& 0x3f).toInt64) ||| (vo.toInt64))), .second] []))
        refine OGo.on (fun t k => XS.lload X179.here hx rfl (hb hby d6_54) rfl k) ?_
        show OGo p e below s _ _ _ (T179.setTop (mkF m 56 #[.val (.ref ra), .val (.int vs), .val (.int vq), .val (.int vo), .val (.long (((((vs.toInt64) <<< ((32 : Int32) &&& 0x3f).toInt64) ||| (vq.toInt64)) <<< ((32 : Int32) &&& 0x3f).toInt64) ||| (vo.toInt64))), .second] [(.long (((((vs.toInt64) <<< ((32 : Int32) &&& 0x3f).toInt64) ||| (vq.toInt64)) <<< ((32 : Int32) &&& 0x3f).toInt64) ||| (vo.toInt64)))]))
        exact OGo.retJ X179 hx hret hlk (hb hby d6_56) (opJ (by unfold own_key; simp only [hc168, hc176, hc180, if_true, if_false] <;> rfl) N0 e179) (by decide) (by decide)
theorem own_pn3 : plainName "org/surnia/graph/ChainsKeyPinLaw" = true := by first | (simp [plainName, overriddenIn]; done) | decide +kernel
theorem own_pd3 : parseMethodDescriptor "(I)V" = some ⟨[.int], none⟩ := by decide +kernel
theorem own_pd4 : parseMethodDescriptor "(III)J" = some ⟨[.int, .int, .int], some .long⟩ := by decide +kernel
theorem own_pd5 : parseMethodDescriptor "()I" = some ⟨[], some .int⟩ := by decide +kernel
theorem ef_own_law (m : MethodId) (x0 : Int32) (x1 : Int32) (x2 : Int32) (x3 : Int32) : entryFrame m #[(.int x0), (.int x1), (.int x2), (.int x3)] maxLocals = mkF m 0 #[.val (.int x0), .val (.int x1), .val (.int x2), .val (.int x3), .unset, .unset, .unset, .unset, .unset, .unset, .unset, .unset, .unset, .unset] [] := by first | (simp [entryFrame, mkF, argsToLocals, Value.category, maxLocals]; done) | rfl
set_option maxRecDepth 65536 in
set_option maxHeartbeats 40000000 in
theorem own_law (l : Launch) (Z : State) (a0 : Array Value) (hw : ∀ d ∈ tables_1, d.before a0 Z = true) (ws : List Jvm.Cond) (vw va vb vc : Int32) (h0 : Heap) (n0 : Nat) (Z0 : n0 ≤ h0.size)  :
    MetFree l x (head1 (Jvm.Cond.code x code maxLocals ret :: ws) room_1) (fun a U => a = #[(.int vw), (.int va), (.int vb), (.int vc)] ∧ Z.Warmed39 U.vm ∧ U.heap = h0) (fun _ _ _ _ _ => True) (fun _ U o U' => ∃ v L, o = .returned v ∧ (fun v h L => v = some (.int 1) ∧ Fr n0 L) v U'.heap L ∧ FrameEnd U o U' L 24 192) := by
  refine MetFree.of_bodySF (plainFor_of_name own_pn3) hisR ?_
  intro p e s m args below meth c s₁ Bd hml0 hP hK
  obtain ⟨rfl, hZ, hh⟩ := hP
  have hx := Bd.exec
  have hby := Bd.bytes
  have hret := Bd.returns
  have hlk : meth.locks = false := Bd.notSynchronized
  have hml : c.maxLocals = 14 := hml0
  have hown : s.vm.findClass "org/surnia/graph/ChainsKeyPinLaw" = some m.cls := findClass_of_methodNamed Bd.named
  have hnm := (name_of_methodNamed Bd.named Bd.method).1
  have X0 : Stand p l e room_1 s m #[(.int vw), (.int va), (.int vb), (.int vc)] below meth c s₁ [] 0 0 := Stand.of_body Bd
  have e0 : s₁.heap = h0 := by rw [← hh, Bd.state]; rfl
  have N0 := Fr.nil n0
  have pre0 : ∀ t, Steps p.tables e below (s₁.setTop (mkF m 0 #[.val (.int vw), .val (.int va), .val (.int vb), .val (.int vc), .unset, .unset, .unset, .unset, .unset, .unset, .unset, .unset, .unset, .unset] [])) t → Steps p.tables e below (s₁.setTop (entryFrame m #[(.int vw), (.int va), (.int vb), (.int vc)] maxLocals)) t := fun t k => castTop (ef_own_law m vw va vb vc) k
  show OGo p e below s (fun v h L => v = some (.int 1) ∧ Fr n0 L) 24 192 (s₁.setTop (entryFrame m #[(.int vw), (.int va), (.int vb), (.int vc)] maxLocals))
  refine OGo.on pre0 ?_
  show OGo p e below s _ _ _ (s₁.setTop (mkF m 0 #[.val (.int vw), .val (.int va), .val (.int vb), .val (.int vc), .unset, .unset, .unset, .unset, .unset, .unset, .unset, .unset, .unset, .unset] []))
  refine OGo.on (fun t k => XS.iloadN X0.here hx rfl (hb hby at_0) rfl k) ?_
  show OGo p e below s _ _ _ (s₁.setTop (mkF m 1 #[.val (.int vw), .val (.int va), .val (.int vb), .val (.int vc), .unset, .unset, .unset, .unset, .unset, .unset, .unset, .unset, .unset, .unset] [(.int va)]))
  refine OGo.on (fun t k => X0.ldcI hx hown (mvT hZ (hw _ (List.mem_of_getElem? (i := 0) rfl))) (g := (mkF m 1 #[.val (.int vw), .val (.int va), .val (.int vb), .val (.int vc), .unset, .unset, .unset, .unset, .unset, .unset, .unset, .unset, .unset, .unset] [(.int va)])) rfl (hb hby at_1) k) ?_
  show OGo p e below s _ _ _ (s₁.setTop (mkF m 3 #[.val (.int vw), .val (.int va), .val (.int vb), .val (.int vc), .unset, .unset, .unset, .unset, .unset, .unset, .unset, .unset, .unset, .unset] [(.int (2147483647 : Int32)), (.int va)]))
  refine OGo.on (fun t k => XS.iand X0.here hx rfl (hb hby at_3) rfl k) ?_
  show OGo p e below s _ _ _ (s₁.setTop (mkF m 4 #[.val (.int vw), .val (.int va), .val (.int vb), .val (.int vc), .unset, .unset, .unset, .unset, .unset, .unset, .unset, .unset, .unset, .unset] [(.int (va &&& (2147483647 : Int32)))]))
  refine OGo.on (fun t k => XS.istore X0.here hx rfl (hb hby at_4) rfl (l' := #[.val (.int vw), .val (.int va), .val (.int vb), .val (.int vc), .val (.int (va &&& (2147483647 : Int32))), .unset, .unset, .unset, .unset, .unset, .unset, .unset, .unset, .unset]) rfl k) ?_
  show OGo p e below s _ _ _ (s₁.setTop (mkF m 6 #[.val (.int vw), .val (.int va), .val (.int vb), .val (.int vc), .val (.int (va &&& (2147483647 : Int32))), .unset, .unset, .unset, .unset, .unset, .unset, .unset, .unset, .unset] []))
  generalize hv_vs : (va &&& (2147483647 : Int32)) = vs
  show OGo p e below s _ _ _ (s₁.setTop (mkF m 6 #[.val (.int vw), .val (.int va), .val (.int vb), .val (.int vc), .val (.int vs), .unset, .unset, .unset, .unset, .unset, .unset, .unset, .unset, .unset] []))
  refine OGo.on (fun t k => XS.iloadN X0.here hx rfl (hb hby at_6) rfl k) ?_
  show OGo p e below s _ _ _ (s₁.setTop (mkF m 7 #[.val (.int vw), .val (.int va), .val (.int vb), .val (.int vc), .val (.int vs), .unset, .unset, .unset, .unset, .unset, .unset, .unset, .unset, .unset] [(.int vb)]))
  refine OGo.on (fun t k => X0.ldcI hx hown (mvT hZ (hw _ (List.mem_of_getElem? (i := 0) rfl))) (g := (mkF m 7 #[.val (.int vw), .val (.int va), .val (.int vb), .val (.int vc), .val (.int vs), .unset, .unset, .unset, .unset, .unset, .unset, .unset, .unset, .unset] [(.int vb)])) rfl (hb hby at_7) k) ?_
  show OGo p e below s _ _ _ (s₁.setTop (mkF m 9 #[.val (.int vw), .val (.int va), .val (.int vb), .val (.int vc), .val (.int vs), .unset, .unset, .unset, .unset, .unset, .unset, .unset, .unset, .unset] [(.int (2147483647 : Int32)), (.int vb)]))
  refine OGo.on (fun t k => XS.iand X0.here hx rfl (hb hby at_9) rfl k) ?_
  show OGo p e below s _ _ _ (s₁.setTop (mkF m 10 #[.val (.int vw), .val (.int va), .val (.int vb), .val (.int vc), .val (.int vs), .unset, .unset, .unset, .unset, .unset, .unset, .unset, .unset, .unset] [(.int (vb &&& (2147483647 : Int32)))]))
  refine OGo.on (fun t k => XS.istore X0.here hx rfl (hb hby at_10) rfl (l' := #[.val (.int vw), .val (.int va), .val (.int vb), .val (.int vc), .val (.int vs), .val (.int (vb &&& (2147483647 : Int32))), .unset, .unset, .unset, .unset, .unset, .unset, .unset, .unset]) rfl k) ?_
  show OGo p e below s _ _ _ (s₁.setTop (mkF m 12 #[.val (.int vw), .val (.int va), .val (.int vb), .val (.int vc), .val (.int vs), .val (.int (vb &&& (2147483647 : Int32))), .unset, .unset, .unset, .unset, .unset, .unset, .unset, .unset] []))
  generalize hv_vq : (vb &&& (2147483647 : Int32)) = vq
  show OGo p e below s _ _ _ (s₁.setTop (mkF m 12 #[.val (.int vw), .val (.int va), .val (.int vb), .val (.int vc), .val (.int vs), .val (.int vq), .unset, .unset, .unset, .unset, .unset, .unset, .unset, .unset] []))
  refine OGo.on (fun t k => XS.iloadN X0.here hx rfl (hb hby at_12) rfl k) ?_
  show OGo p e below s _ _ _ (s₁.setTop (mkF m 13 #[.val (.int vw), .val (.int va), .val (.int vb), .val (.int vc), .val (.int vs), .val (.int vq), .unset, .unset, .unset, .unset, .unset, .unset, .unset, .unset] [(.int vc)]))
  refine OGo.on (fun t k => X0.ldcI hx hown (mvT hZ (hw _ (List.mem_of_getElem? (i := 0) rfl))) (g := (mkF m 13 #[.val (.int vw), .val (.int va), .val (.int vb), .val (.int vc), .val (.int vs), .val (.int vq), .unset, .unset, .unset, .unset, .unset, .unset, .unset, .unset] [(.int vc)])) rfl (hb hby at_13) k) ?_
  show OGo p e below s _ _ _ (s₁.setTop (mkF m 15 #[.val (.int vw), .val (.int va), .val (.int vb), .val (.int vc), .val (.int vs), .val (.int vq), .unset, .unset, .unset, .unset, .unset, .unset, .unset, .unset] [(.int (2147483647 : Int32)), (.int vc)]))
  refine OGo.on (fun t k => XS.iand X0.here hx rfl (hb hby at_15) rfl k) ?_
  show OGo p e below s _ _ _ (s₁.setTop (mkF m 16 #[.val (.int vw), .val (.int va), .val (.int vb), .val (.int vc), .val (.int vs), .val (.int vq), .unset, .unset, .unset, .unset, .unset, .unset, .unset, .unset] [(.int (vc &&& (2147483647 : Int32)))]))
  refine OGo.on (fun t k => XS.istore X0.here hx rfl (hb hby at_16) rfl (l' := #[.val (.int vw), .val (.int va), .val (.int vb), .val (.int vc), .val (.int vs), .val (.int vq), .val (.int (vc &&& (2147483647 : Int32))), .unset, .unset, .unset, .unset, .unset, .unset, .unset]) rfl k) ?_
  show OGo p e below s _ _ _ (s₁.setTop (mkF m 18 #[.val (.int vw), .val (.int va), .val (.int vb), .val (.int vc), .val (.int vs), .val (.int vq), .val (.int (vc &&& (2147483647 : Int32))), .unset, .unset, .unset, .unset, .unset, .unset, .unset] []))
  generalize hv_vo : (vc &&& (2147483647 : Int32)) = vo
  show OGo p e below s _ _ _ (s₁.setTop (mkF m 18 #[.val (.int vw), .val (.int va), .val (.int vb), .val (.int vc), .val (.int vs), .val (.int vq), .val (.int vo), .unset, .unset, .unset, .unset, .unset, .unset, .unset] []))
  refine OGo.on (fun t k => XS.iloadN X0.here hx rfl (hb hby at_18) rfl k) ?_
  show OGo p e below s _ _ _ (s₁.setTop (mkF m 19 #[.val (.int vw), .val (.int va), .val (.int vb), .val (.int vc), .val (.int vs), .val (.int vq), .val (.int vo), .unset, .unset, .unset, .unset, .unset, .unset, .unset] [(.int vw)]))
  refine OGo.on (fun t k => X0.ldcI hx hown (mvT hZ (hw _ (List.mem_of_getElem? (i := 0) rfl))) (g := (mkF m 19 #[.val (.int vw), .val (.int va), .val (.int vb), .val (.int vc), .val (.int vs), .val (.int vq), .val (.int vo), .unset, .unset, .unset, .unset, .unset, .unset, .unset] [(.int vw)])) rfl (hb hby at_19) k) ?_
  show OGo p e below s _ _ _ (s₁.setTop (mkF m 21 #[.val (.int vw), .val (.int va), .val (.int vb), .val (.int vc), .val (.int vs), .val (.int vq), .val (.int vo), .unset, .unset, .unset, .unset, .unset, .unset, .unset] [(.int (2147483647 : Int32)), (.int vw)]))
  refine OGo.on (fun t k => XS.iand X0.here hx rfl (hb hby at_21) rfl k) ?_
  show OGo p e below s _ _ _ (s₁.setTop (mkF m 22 #[.val (.int vw), .val (.int va), .val (.int vb), .val (.int vc), .val (.int vs), .val (.int vq), .val (.int vo), .unset, .unset, .unset, .unset, .unset, .unset, .unset] [(.int (vw &&& (2147483647 : Int32)))]))
  refine OGo.on (fun t k => XS.bipush X0.here hx rfl (hb hby at_22) k) ?_
  show OGo p e below s _ _ _ (s₁.setTop (mkF m 24 #[.val (.int vw), .val (.int va), .val (.int vb), .val (.int vc), .val (.int vs), .val (.int vq), .val (.int vo), .unset, .unset, .unset, .unset, .unset, .unset, .unset] [(.int (6 : Int32)), (.int (vw &&& (2147483647 : Int32)))]))
  refine OGo.on (fun t k => iremM X0 hx rfl (hb hby at_24) rfl (by decide) k) ?_
  show OGo p e below s _ _ _ (s₁.setTop (mkF m 25 #[.val (.int vw), .val (.int va), .val (.int vb), .val (.int vc), .val (.int vs), .val (.int vq), .val (.int vo), .unset, .unset, .unset, .unset, .unset, .unset, .unset] [(.int ((vw &&& (2147483647 : Int32)) % (6 : Int32)))]))
  refine OGo.on (fun t k => XS.istore X0.here hx rfl (hb hby at_25) rfl (l' := #[.val (.int vw), .val (.int va), .val (.int vb), .val (.int vc), .val (.int vs), .val (.int vq), .val (.int vo), .val (.int ((vw &&& (2147483647 : Int32)) % (6 : Int32))), .unset, .unset, .unset, .unset, .unset, .unset]) rfl k) ?_
  show OGo p e below s _ _ _ (s₁.setTop (mkF m 27 #[.val (.int vw), .val (.int va), .val (.int vb), .val (.int vc), .val (.int vs), .val (.int vq), .val (.int vo), .val (.int ((vw &&& (2147483647 : Int32)) % (6 : Int32))), .unset, .unset, .unset, .unset, .unset, .unset] []))
  have hvs : 0 ≤ vs.toInt := by rw [← hv_vs]; exact own_mask _
  have hvq : 0 ≤ vq.toInt := by rw [← hv_vq]; exact own_mask _
  have hvo : 0 ≤ vo.toInt := by rw [← hv_vo]; exact own_mask _
  refine OGo.on (fun t k => XS.iload X0.here hx rfl (hb hby at_27) rfl k) ?_
  show OGo p e below s _ _ _ (s₁.setTop (mkF m 29 #[.val (.int vw), .val (.int va), .val (.int vb), .val (.int vc), .val (.int vs), .val (.int vq), .val (.int vo), .val (.int ((vw &&& (2147483647 : Int32)) % (6 : Int32))), .unset, .unset, .unset, .unset, .unset, .unset] [(.int ((vw &&& (2147483647 : Int32)) % (6 : Int32)))]))
  by_cases hc181 : ((vw &&& (2147483647 : Int32)) % (6 : Int32)) = (0 : Int32)
  · refine OGo.on (fun t k => XS.ifNo X0.here hx rfl (hb hby at_29) rfl ((if0 _ _).trans (teq hc181).2) k) ?_
    show OGo p e below s _ _ _ (s₁.setTop (mkF m 32 #[.val (.int vw), .val (.int va), .val (.int vb), .val (.int vc), .val (.int vs), .val (.int vq), .val (.int vo), .val (.int ((vw &&& (2147483647 : Int32)) % (6 : Int32))), .unset, .unset, .unset, .unset, .unset, .unset] []))
    refine OGo.on (fun t k => XS.iconst X0.here hx rfl (hb hby at_32) k) ?_
    show OGo p e below s _ _ _ (s₁.setTop (mkF m 33 #[.val (.int vw), .val (.int va), .val (.int vb), .val (.int vc), .val (.int vs), .val (.int vq), .val (.int vo), .val (.int ((vw &&& (2147483647 : Int32)) % (6 : Int32))), .unset, .unset, .unset, .unset, .unset, .unset] [(.int (1 : Int32))]))
    refine OGo.on (fun t k => XS.istore X0.here hx rfl (hb hby at_33) rfl (l' := #[.val (.int vw), .val (.int va), .val (.int vb), .val (.int vc), .val (.int vs), .val (.int vq), .val (.int vo), .val (.int ((vw &&& (2147483647 : Int32)) % (6 : Int32))), .val (.int (1 : Int32)), .unset, .unset, .unset, .unset, .unset]) rfl k) ?_
    show OGo p e below s _ _ _ (s₁.setTop (mkF m 35 #[.val (.int vw), .val (.int va), .val (.int vb), .val (.int vc), .val (.int vs), .val (.int vq), .val (.int vo), .val (.int ((vw &&& (2147483647 : Int32)) % (6 : Int32))), .val (.int (1 : Int32)), .unset, .unset, .unset, .unset, .unset] []))
    refine OGo.on (fun t k => XS.goto X0.here hx rfl (pc0 := 35) (pc' := 90) rfl (hb hby at_35) (by decide) (by decide) k) ?_
    show OGo p e below s _ _ _ (s₁.setTop (mkF m 90 #[.val (.int vw), .val (.int va), .val (.int vb), .val (.int vc), .val (.int vs), .val (.int vq), .val (.int vo), .val (.int ((vw &&& (2147483647 : Int32)) % (6 : Int32))), .val (.int (1 : Int32)), .unset, .unset, .unset, .unset, .unset] []))
    obtain ⟨T182, h182, X182, e182, E182, A182, D182, -, st182⟩ := newO X0 hx hZ hown (hw _ (List.mem_of_getElem? (i := 1) rfl)) (hw _ (List.mem_of_getElem? (i := 2) rfl)) (hw _ (List.mem_of_getElem? (i := 3) rfl)) e0 (g := (mkF m 90 #[.val (.int vw), .val (.int va), .val (.int vb), .val (.int vc), .val (.int vs), .val (.int vq), .val (.int vo), .val (.int ((vw &&& (2147483647 : Int32)) % (6 : Int32))), .val (.int (1 : Int32)), .unset, .unset, .unset, .unset, .unset] [])) rfl (hb hby at_90) (by decide) (by decide)
    obtain ⟨b182, g182⟩ : ∃ z, z = h0.size := ⟨_, rfl⟩
    rw [← g182] at A182 D182 st182
    have ge183 : n0 ≤ b182 := Nat.le_trans Z0 (Nat.le_of_eq g182.symm)
    have Z184 : n0 ≤ h182.size := Nat.le_trans Z0 E182.1
    have f185 : Fld Z h182 b182 "org/surnia/graph/Chains" "newest" "Lorg/surnia/graph/LongIntMap;" .null := D182 (Or.inr (hw _ (List.mem_of_getElem? (i := 32) rfl))) (ty := (.object "org/surnia/graph/LongIntMap")) (by decide)
    have f186 : Fld Z h182 b182 "org/surnia/graph/Chains" "older" "[I" .null := D182 (Or.inl (hw _ (List.mem_of_getElem? (i := 34) rfl))) (ty := (.array .int)) (by decide)
    have f187 : Fld Z h182 b182 "org/surnia/graph/Chains" "places" "I" (.int (0 : Int32)) := D182 (Or.inr (hw _ (List.mem_of_getElem? (i := 36) rfl))) (ty := .int) (by decide)
    refine OGo.on st182 ?_
    show OGo p e below s _ _ _ (T182.setTop (mkF m 93 #[.val (.int vw), .val (.int va), .val (.int vb), .val (.int vc), .val (.int vs), .val (.int vq), .val (.int vo), .val (.int ((vw &&& (2147483647 : Int32)) % (6 : Int32))), .val (.int (1 : Int32)), .unset, .unset, .unset, .unset, .unset] [(.ref b182)]))
    refine OGo.on (fun t k => XS.dup X182.here hx rfl (hb hby at_93) rfl rfl k) ?_
    show OGo p e below s _ _ _ (T182.setTop (mkF m 94 #[.val (.int vw), .val (.int va), .val (.int vb), .val (.int vc), .val (.int vs), .val (.int vq), .val (.int vo), .val (.int ((vw &&& (2147483647 : Int32)) % (6 : Int32))), .val (.int (1 : Int32)), .unset, .unset, .unset, .unset, .unset] [(.ref b182), (.ref b182)]))
    refine OGo.on (fun t k => XS.iload X182.here hx rfl (hb hby at_94) rfl k) ?_
    show OGo p e below s _ _ _ (T182.setTop (mkF m 96 #[.val (.int vw), .val (.int va), .val (.int vb), .val (.int vc), .val (.int vs), .val (.int vq), .val (.int vo), .val (.int ((vw &&& (2147483647 : Int32)) % (6 : Int32))), .val (.int (1 : Int32)), .unset, .unset, .unset, .unset, .unset] [(.int (1 : Int32)), (.ref b182), (.ref b182)]))
    obtain ⟨_, _, ⟨T188, L188, k188, n188⟩, -, X188, ⟨Lc188, hQ188, l188, y188, z188⟩, st188⟩ := X182.specialBack hx (y := (⟨"org/surnia/graph/Chains", "<init>", "(I)V"⟩ : MethodName)) rfl hown (mvT hZ (hw _ (List.mem_of_getElem? (i := 4) rfl))) (mvT hZ (hw _ (List.mem_of_getElem? (i := 5) rfl))) (mvT hZ (hw _ (List.mem_of_getElem? (i := 6) rfl))) (by decide) (backOf (W := 1) (own_chinit l Z a0 hw [] b182 (1 : Int32) h182 n0 Z184 ge183 A182 f185 f186 f187) hZ (hw _ (List.mem_of_getElem? (i := 6) rfl)) (hw _ (List.mem_of_getElem? (i := 3) rfl)) (by decide) (by decide)) (g := (mkF m 96 #[.val (.int vw), .val (.int va), .val (.int vb), .val (.int vc), .val (.int vs), .val (.int vq), .val (.int vo), .val (.int ((vw &&& (2147483647 : Int32)) % (6 : Int32))), .val (.int (1 : Int32)), .unset, .unset, .unset, .unset, .unset] [(.int (1 : Int32)), (.ref b182), (.ref b182)])) rfl (by rw [hml]; rfl) (Steps.refl _) (a := b182) (argsL := [(.int (1 : Int32))]) (rest := [(.ref b182)]) (lenOf own_pd3 rfl) rfl (by show 2 * 0 + _ ≤ _; exact Nat.le_of_eq rfl) (hb hby at_96) (fun _ _ => ⟨rfl, e182, (by decide : 1 + 4 ≤ _), (by decide : 3 + 51 ≤ _)⟩)
    dsimp only [Pt.U, Pt.locs, Pt.cells, Pt.slots] at X188 l188 y188 z188 st188 hQ188
    subst l188 y188 z188
    obtain ⟨rfl, N188q, K188, Fp188⟩ := hQ188
    have N188 := Fr.app N0 N188q
    have f189 : Exa Z T188.heap b182 "org/surnia/graph/Chains" := A182.keep K188
    have Z190 : n0 ≤ T188.heap.size := Nat.le_trans Z184 K188.1
    have eh188 : T188.heap = T188.heap := rfl
    refine OGo.on (fun t k => st188.trans k) ?_
    show OGo p e below s _ _ _ (T188.setTop (mkF m 99 #[.val (.int vw), .val (.int va), .val (.int vb), .val (.int vc), .val (.int vs), .val (.int vq), .val (.int vo), .val (.int ((vw &&& (2147483647 : Int32)) % (6 : Int32))), .val (.int (1 : Int32)), .unset, .unset, .unset, .unset, .unset] [(.ref b182)]))
    refine OGo.on (fun t k => XS.astore X188.here hx rfl (hb hby at_99) rfl rfl (l' := #[.val (.int vw), .val (.int va), .val (.int vb), .val (.int vc), .val (.int vs), .val (.int vq), .val (.int vo), .val (.int ((vw &&& (2147483647 : Int32)) % (6 : Int32))), .val (.int (1 : Int32)), .val (.ref b182), .unset, .unset, .unset, .unset]) rfl k) ?_
    show OGo p e below s _ _ _ (T188.setTop (mkF m 101 #[.val (.int vw), .val (.int va), .val (.int vb), .val (.int vc), .val (.int vs), .val (.int vq), .val (.int vo), .val (.int ((vw &&& (2147483647 : Int32)) % (6 : Int32))), .val (.int (1 : Int32)), .val (.ref b182), .unset, .unset, .unset, .unset] []))
    refine OGo.on (fun t k => XS.aload X188.here hx rfl (hb hby at_101) rfl rfl k) ?_
    show OGo p e below s _ _ _ (T188.setTop (mkF m 103 #[.val (.int vw), .val (.int va), .val (.int vb), .val (.int vc), .val (.int vs), .val (.int vq), .val (.int vo), .val (.int ((vw &&& (2147483647 : Int32)) % (6 : Int32))), .val (.int (1 : Int32)), .val (.ref b182), .unset, .unset, .unset, .unset] [(.ref b182)]))
    refine OGo.on (fun t k => XS.iload X188.here hx rfl (hb hby at_103) rfl k) ?_
    show OGo p e below s _ _ _ (T188.setTop (mkF m 105 #[.val (.int vw), .val (.int va), .val (.int vb), .val (.int vc), .val (.int vs), .val (.int vq), .val (.int vo), .val (.int ((vw &&& (2147483647 : Int32)) % (6 : Int32))), .val (.int (1 : Int32)), .val (.ref b182), .unset, .unset, .unset, .unset] [(.int vs), (.ref b182)]))
    refine OGo.on (fun t k => XS.iload X188.here hx rfl (hb hby at_105) rfl k) ?_
    show OGo p e below s _ _ _ (T188.setTop (mkF m 107 #[.val (.int vw), .val (.int va), .val (.int vb), .val (.int vc), .val (.int vs), .val (.int vq), .val (.int vo), .val (.int ((vw &&& (2147483647 : Int32)) % (6 : Int32))), .val (.int (1 : Int32)), .val (.ref b182), .unset, .unset, .unset, .unset] [(.int vq), (.int vs), (.ref b182)]))
    refine OGo.on (fun t k => XS.iload X188.here hx rfl (hb hby at_107) rfl k) ?_
    show OGo p e below s _ _ _ (T188.setTop (mkF m 109 #[.val (.int vw), .val (.int va), .val (.int vb), .val (.int vc), .val (.int vs), .val (.int vq), .val (.int vo), .val (.int ((vw &&& (2147483647 : Int32)) % (6 : Int32))), .val (.int (1 : Int32)), .val (.ref b182), .unset, .unset, .unset, .unset] [(.int vo), (.int vq), (.int vs), (.ref b182)]))
    obtain ⟨cq191, kq191, q191a, q191b, q191c⟩ := isOf hZ eh188 f189
    obtain ⟨_, _, ⟨T191, L191, k191, n191⟩, -, X191, ⟨Lc191, hQ191, l191, y191, z191⟩, st191⟩ := X188.virtualBack hx (y := (⟨"org/surnia/graph/Chains", "key", "(III)J"⟩ : MethodName)) (z := (⟨"org/surnia/graph/Chains", "key", "(III)J"⟩ : MethodName)) hown (mvT hZ (hw _ (List.mem_of_getElem? (i := 37) rfl))) (mvT hZ (hw _ (List.mem_of_getElem? (i := 38) rfl))) (notFace_of_selects (args := #[]) (mvT hZ (hw _ (List.mem_of_getElem? (i := 40) rfl)))) (mvT hZ (hw _ (List.mem_of_getElem? (i := 40) rfl))) (mvT hZ (hw _ (List.mem_of_getElem? (i := 39) rfl))) (by decide) (backOf (W := 0) (own_mkey l Z a0 hw [] b182 vs vq vo (1 : Int32) T188.heap n0 Z190 Fp188) hZ (hw _ (List.mem_of_getElem? (i := 41) rfl)) (hw _ (List.mem_of_getElem? (i := 3) rfl)) (by decide) (by decide)) q191a q191c (g := (mkF m 109 #[.val (.int vw), .val (.int va), .val (.int vb), .val (.int vc), .val (.int vs), .val (.int vq), .val (.int vo), .val (.int ((vw &&& (2147483647 : Int32)) % (6 : Int32))), .val (.int (1 : Int32)), .val (.ref b182), .unset, .unset, .unset, .unset] [(.int vo), (.int vq), (.int vs), (.ref b182)])) rfl (by rw [hml]; rfl) (Steps.refl _) (argsL := [(.int vs), (.int vq), (.int vo)]) (rest := []) (lenOf own_pd4 rfl) rfl (by show 2 * 0 + _ ≤ _; exact Nat.le_of_eq rfl) (hb hby at_109) (fun _ _ => ⟨rfl, eh188, (by decide : 5 + 0 ≤ _), (by decide : 54 + 0 ≤ _)⟩)
    dsimp only [Pt.U, Pt.locs, Pt.cells, Pt.slots] at X191 l191 y191 z191 st191 hQ191
    subst l191 y191 z191
    obtain ⟨rfl, N191q, e191⟩ := hQ191
    have N191 := Fr.app N188 N191q
    refine OGo.on (fun t k => st191.trans k) ?_
    show OGo p e below s _ _ _ (T191.setTop (mkF m 112 #[.val (.int vw), .val (.int va), .val (.int vb), .val (.int vc), .val (.int vs), .val (.int vq), .val (.int vo), .val (.int ((vw &&& (2147483647 : Int32)) % (6 : Int32))), .val (.int (1 : Int32)), .val (.ref b182), .unset, .unset, .unset, .unset] [(.long (own_key (1 : Int32) vs vq vo))]))
    refine OGo.on (fun t k => XS.lstore X191.here hx rfl (hb hby at_112) rfl (l' := #[.val (.int vw), .val (.int va), .val (.int vb), .val (.int vc), .val (.int vs), .val (.int vq), .val (.int vo), .val (.int ((vw &&& (2147483647 : Int32)) % (6 : Int32))), .val (.int (1 : Int32)), .val (.ref b182), .val (.long (own_key (1 : Int32) vs vq vo)), .second, .unset, .unset]) rfl k) ?_
    show OGo p e below s _ _ _ (T191.setTop (mkF m 114 #[.val (.int vw), .val (.int va), .val (.int vb), .val (.int vc), .val (.int vs), .val (.int vq), .val (.int vo), .val (.int ((vw &&& (2147483647 : Int32)) % (6 : Int32))), .val (.int (1 : Int32)), .val (.ref b182), .val (.long (own_key (1 : Int32) vs vq vo)), .second, .unset, .unset] []))
    refine OGo.on (fun t k => XS.iload X191.here hx rfl (hb hby at_114) rfl k) ?_
    show OGo p e below s _ _ _ (T191.setTop (mkF m 116 #[.val (.int vw), .val (.int va), .val (.int vb), .val (.int vc), .val (.int vs), .val (.int vq), .val (.int vo), .val (.int ((vw &&& (2147483647 : Int32)) % (6 : Int32))), .val (.int (1 : Int32)), .val (.ref b182), .val (.long (own_key (1 : Int32) vs vq vo)), .second, .unset, .unset] [(.int (1 : Int32))]))
    refine OGo.on (fun t k => XS.iconst X191.here hx rfl (hb hby at_116) k) ?_
    show OGo p e below s _ _ _ (T191.setTop (mkF m 117 #[.val (.int vw), .val (.int va), .val (.int vb), .val (.int vc), .val (.int vs), .val (.int vq), .val (.int vo), .val (.int ((vw &&& (2147483647 : Int32)) % (6 : Int32))), .val (.int (1 : Int32)), .val (.ref b182), .val (.long (own_key (1 : Int32) vs vq vo)), .second, .unset, .unset] [(.int (1 : Int32)), (.int (1 : Int32))]))
    refine OGo.on (fun t k => XS.icmpNo X191.here hx rfl (hb hby at_117) rfl (teq (by decide)).2 k) ?_
    show OGo p e below s _ _ _ (T191.setTop (mkF m 120 #[.val (.int vw), .val (.int va), .val (.int vb), .val (.int vc), .val (.int vs), .val (.int vq), .val (.int vo), .val (.int ((vw &&& (2147483647 : Int32)) % (6 : Int32))), .val (.int (1 : Int32)), .val (.ref b182), .val (.long (own_key (1 : Int32) vs vq vo)), .second, .unset, .unset] []))
    refine OGo.on (fun t k => XS.iload X191.here hx rfl (hb hby at_120) rfl k) ?_
    show OGo p e below s _ _ _ (T191.setTop (mkF m 122 #[.val (.int vw), .val (.int va), .val (.int vb), .val (.int vc), .val (.int vs), .val (.int vq), .val (.int vo), .val (.int ((vw &&& (2147483647 : Int32)) % (6 : Int32))), .val (.int (1 : Int32)), .val (.ref b182), .val (.long (own_key (1 : Int32) vs vq vo)), .second, .unset, .unset] [(.int vs)]))
    refine OGo.on (fun t k => XS.i2l X191.here hx rfl (hb hby at_122) rfl k) ?_
    show OGo p e below s _ _ _ (T191.setTop (mkF m 123 #[.val (.int vw), .val (.int va), .val (.int vb), .val (.int vc), .val (.int vs), .val (.int vq), .val (.int vo), .val (.int ((vw &&& (2147483647 : Int32)) % (6 : Int32))), .val (.int (1 : Int32)), .val (.ref b182), .val (.long (own_key (1 : Int32) vs vq vo)), .second, .unset, .unset] [(.long (vs.toInt64))]))
    refine OGo.on (fun t k => XS.lstore X191.here hx rfl (hb hby at_123) rfl (l' := #[.val (.int vw), .val (.int va), .val (.int vb), .val (.int vc), .val (.int vs), .val (.int vq), .val (.int vo), .val (.int ((vw &&& (2147483647 : Int32)) % (6 : Int32))), .val (.int (1 : Int32)), .val (.ref b182), .val (.long (own_key (1 : Int32) vs vq vo)), .second, .val (.long (vs.toInt64)), .second]) rfl k) ?_
    show OGo p e below s _ _ _ (T191.setTop (mkF m 125 #[.val (.int vw), .val (.int va), .val (.int vb), .val (.int vc), .val (.int vs), .val (.int vq), .val (.int vo), .val (.int ((vw &&& (2147483647 : Int32)) % (6 : Int32))), .val (.int (1 : Int32)), .val (.ref b182), .val (.long (own_key (1 : Int32) vs vq vo)), .second, .val (.long (vs.toInt64)), .second] []))
    refine OGo.on (fun t k => XS.goto X191.here hx rfl (pc0 := 125) (pc' := 213) rfl (hb hby at_125) (by decide) (by decide) k) ?_
    show OGo p e below s _ _ _ (T191.setTop (mkF m 213 #[.val (.int vw), .val (.int va), .val (.int vb), .val (.int vc), .val (.int vs), .val (.int vq), .val (.int vo), .val (.int ((vw &&& (2147483647 : Int32)) % (6 : Int32))), .val (.int (1 : Int32)), .val (.ref b182), .val (.long (own_key (1 : Int32) vs vq vo)), .second, .val (.long (vs.toInt64)), .second] []))
    refine OGo.on (fun t k => XS.lload X191.here hx rfl (hb hby at_213) rfl k) ?_
    show OGo p e below s _ _ _ (T191.setTop (mkF m 215 #[.val (.int vw), .val (.int va), .val (.int vb), .val (.int vc), .val (.int vs), .val (.int vq), .val (.int vo), .val (.int ((vw &&& (2147483647 : Int32)) % (6 : Int32))), .val (.int (1 : Int32)), .val (.ref b182), .val (.long (own_key (1 : Int32) vs vq vo)), .second, .val (.long (vs.toInt64)), .second] [(.long (own_key (1 : Int32) vs vq vo))]))
    refine OGo.on (fun t k => XS.lload X191.here hx rfl (hb hby at_215) rfl k) ?_
    show OGo p e below s _ _ _ (T191.setTop (mkF m 217 #[.val (.int vw), .val (.int va), .val (.int vb), .val (.int vc), .val (.int vs), .val (.int vq), .val (.int vo), .val (.int ((vw &&& (2147483647 : Int32)) % (6 : Int32))), .val (.int (1 : Int32)), .val (.ref b182), .val (.long (own_key (1 : Int32) vs vq vo)), .second, .val (.long (vs.toInt64)), .second] [(.long (vs.toInt64)), (.long (own_key (1 : Int32) vs vq vo))]))
    refine OGo.on (fun t k => XS.lcmp X191.here hx rfl (hb hby at_217) rfl k) ?_
    show OGo p e below s _ _ _ (T191.setTop (mkF m 218 #[.val (.int vw), .val (.int va), .val (.int vb), .val (.int vc), .val (.int vs), .val (.int vq), .val (.int vo), .val (.int ((vw &&& (2147483647 : Int32)) % (6 : Int32))), .val (.int (1 : Int32)), .val (.ref b182), .val (.long (own_key (1 : Int32) vs vq vo)), .second, .val (.long (vs.toInt64)), .second] [(.int (lcmpW (own_key (1 : Int32) vs vq vo) (vs.toInt64)))]))
    refine OGo.on (fun t k => XS.ifNo X191.here hx rfl (hb hby at_218) rfl (lc_teq (own_p1 vs vq vo)).2 k) ?_
    show OGo p e below s _ _ _ (T191.setTop (mkF m 221 #[.val (.int vw), .val (.int va), .val (.int vb), .val (.int vc), .val (.int vs), .val (.int vq), .val (.int vo), .val (.int ((vw &&& (2147483647 : Int32)) % (6 : Int32))), .val (.int (1 : Int32)), .val (.ref b182), .val (.long (own_key (1 : Int32) vs vq vo)), .second, .val (.long (vs.toInt64)), .second] []))
    refine OGo.on (fun t k => XS.aload X191.here hx rfl (hb hby at_221) rfl rfl k) ?_
    show OGo p e below s _ _ _ (T191.setTop (mkF m 223 #[.val (.int vw), .val (.int va), .val (.int vb), .val (.int vc), .val (.int vs), .val (.int vq), .val (.int vo), .val (.int ((vw &&& (2147483647 : Int32)) % (6 : Int32))), .val (.int (1 : Int32)), .val (.ref b182), .val (.long (own_key (1 : Int32) vs vq vo)), .second, .val (.long (vs.toInt64)), .second] [(.ref b182)]))
    obtain ⟨cq192, kq192, q192a, q192b, q192c⟩ := isOf hZ e191 f189
    obtain ⟨_, _, ⟨T192, L192, k192, n192⟩, -, X192, ⟨Lc192, hQ192, l192, y192, z192⟩, st192⟩ := X191.virtualBack hx (y := (⟨"org/surnia/graph/Chains", "places", "()I"⟩ : MethodName)) (z := (⟨"org/surnia/graph/Chains", "places", "()I"⟩ : MethodName)) hown (mvT hZ (hw _ (List.mem_of_getElem? (i := 42) rfl))) (mvT hZ (hw _ (List.mem_of_getElem? (i := 43) rfl))) (notFace_of_selects (args := #[]) (mvT hZ (hw _ (List.mem_of_getElem? (i := 45) rfl)))) (mvT hZ (hw _ (List.mem_of_getElem? (i := 45) rfl))) (mvT hZ (hw _ (List.mem_of_getElem? (i := 44) rfl))) (by decide) (backOf (W := 0) (own_mplaces l Z a0 hw [] b182 (1 : Int32) T188.heap n0 Z190 Fp188) hZ (hw _ (List.mem_of_getElem? (i := 46) rfl)) (hw _ (List.mem_of_getElem? (i := 3) rfl)) (by decide) (by decide)) q192a q192c (g := (mkF m 223 #[.val (.int vw), .val (.int va), .val (.int vb), .val (.int vc), .val (.int vs), .val (.int vq), .val (.int vo), .val (.int ((vw &&& (2147483647 : Int32)) % (6 : Int32))), .val (.int (1 : Int32)), .val (.ref b182), .val (.long (own_key (1 : Int32) vs vq vo)), .second, .val (.long (vs.toInt64)), .second] [(.ref b182)])) rfl (by rw [hml]; rfl) (Steps.refl _) (argsL := []) (rest := []) (lenOf own_pd5 rfl) rfl (by show 2 * 0 + _ ≤ _; exact Nat.le_of_eq rfl) (hb hby at_223) (fun _ _ => ⟨rfl, e191, (by decide : 5 + 0 ≤ _), (by decide : 54 + 0 ≤ _)⟩)
    dsimp only [Pt.U, Pt.locs, Pt.cells, Pt.slots] at X192 l192 y192 z192 st192 hQ192
    subst l192 y192 z192
    obtain ⟨rfl, N192q, e192⟩ := hQ192
    have N192 := Fr.app N191 N192q
    refine OGo.on (fun t k => st192.trans k) ?_
    show OGo p e below s _ _ _ (T192.setTop (mkF m 226 #[.val (.int vw), .val (.int va), .val (.int vb), .val (.int vc), .val (.int vs), .val (.int vq), .val (.int vo), .val (.int ((vw &&& (2147483647 : Int32)) % (6 : Int32))), .val (.int (1 : Int32)), .val (.ref b182), .val (.long (own_key (1 : Int32) vs vq vo)), .second, .val (.long (vs.toInt64)), .second] [(.int (1 : Int32))]))
    refine OGo.on (fun t k => XS.iload X192.here hx rfl (hb hby at_226) rfl k) ?_
    show OGo p e below s _ _ _ (T192.setTop (mkF m 228 #[.val (.int vw), .val (.int va), .val (.int vb), .val (.int vc), .val (.int vs), .val (.int vq), .val (.int vo), .val (.int ((vw &&& (2147483647 : Int32)) % (6 : Int32))), .val (.int (1 : Int32)), .val (.ref b182), .val (.long (own_key (1 : Int32) vs vq vo)), .second, .val (.long (vs.toInt64)), .second] [(.int (1 : Int32)), (.int (1 : Int32))]))
    refine OGo.on (fun t k => XS.icmpNo X192.here hx rfl (hb hby at_228) rfl (teq (by decide)).2 k) ?_
    show OGo p e below s _ _ _ (T192.setTop (mkF m 231 #[.val (.int vw), .val (.int va), .val (.int vb), .val (.int vc), .val (.int vs), .val (.int vq), .val (.int vo), .val (.int ((vw &&& (2147483647 : Int32)) % (6 : Int32))), .val (.int (1 : Int32)), .val (.ref b182), .val (.long (own_key (1 : Int32) vs vq vo)), .second, .val (.long (vs.toInt64)), .second] []))
    refine OGo.on (fun t k => XS.iconst X192.here hx rfl (hb hby at_231) k) ?_
    show OGo p e below s _ _ _ (T192.setTop (mkF m 232 #[.val (.int vw), .val (.int va), .val (.int vb), .val (.int vc), .val (.int vs), .val (.int vq), .val (.int vo), .val (.int ((vw &&& (2147483647 : Int32)) % (6 : Int32))), .val (.int (1 : Int32)), .val (.ref b182), .val (.long (own_key (1 : Int32) vs vq vo)), .second, .val (.long (vs.toInt64)), .second] [(.int (1 : Int32))]))
    refine OGo.on (fun t k => XS.goto X192.here hx rfl (pc0 := 232) (pc' := 236) rfl (hb hby at_232) (by decide) (by decide) k) ?_
    show OGo p e below s _ _ _ (T192.setTop (mkF m 236 #[.val (.int vw), .val (.int va), .val (.int vb), .val (.int vc), .val (.int vs), .val (.int vq), .val (.int vo), .val (.int ((vw &&& (2147483647 : Int32)) % (6 : Int32))), .val (.int (1 : Int32)), .val (.ref b182), .val (.long (own_key (1 : Int32) vs vq vo)), .second, .val (.long (vs.toInt64)), .second] [(.int (1 : Int32))]))
    exact OGo.retN X192 hx (t := .boolean) hret hlk (by simp) (hb hby at_236) ⟨rfl, N192⟩ (by decide) (by decide)
  · refine OGo.on (fun t k => XS.ifYes X0.here hx rfl (pc0 := 29) (pc' := 38) rfl (hb hby at_29) rfl ((if0 _ _).trans (feq hc181).2) (by decide) (by decide) k) ?_
    show OGo p e below s _ _ _ (s₁.setTop (mkF m 38 #[.val (.int vw), .val (.int va), .val (.int vb), .val (.int vc), .val (.int vs), .val (.int vq), .val (.int vo), .val (.int ((vw &&& (2147483647 : Int32)) % (6 : Int32))), .unset, .unset, .unset, .unset, .unset, .unset] []))
    refine OGo.on (fun t k => XS.iload X0.here hx rfl (hb hby at_38) rfl k) ?_
    show OGo p e below s _ _ _ (s₁.setTop (mkF m 40 #[.val (.int vw), .val (.int va), .val (.int vb), .val (.int vc), .val (.int vs), .val (.int vq), .val (.int vo), .val (.int ((vw &&& (2147483647 : Int32)) % (6 : Int32))), .unset, .unset, .unset, .unset, .unset, .unset] [(.int ((vw &&& (2147483647 : Int32)) % (6 : Int32)))]))
    refine OGo.on (fun t k => XS.iconst X0.here hx rfl (hb hby at_40) k) ?_
    show OGo p e below s _ _ _ (s₁.setTop (mkF m 41 #[.val (.int vw), .val (.int va), .val (.int vb), .val (.int vc), .val (.int vs), .val (.int vq), .val (.int vo), .val (.int ((vw &&& (2147483647 : Int32)) % (6 : Int32))), .unset, .unset, .unset, .unset, .unset, .unset] [(.int (1 : Int32)), (.int ((vw &&& (2147483647 : Int32)) % (6 : Int32)))]))
    by_cases hc193 : ((vw &&& (2147483647 : Int32)) % (6 : Int32)) = (1 : Int32)
    · refine OGo.on (fun t k => XS.icmpNo X0.here hx rfl (hb hby at_41) rfl (teq hc193).2 k) ?_
      show OGo p e below s _ _ _ (s₁.setTop (mkF m 44 #[.val (.int vw), .val (.int va), .val (.int vb), .val (.int vc), .val (.int vs), .val (.int vq), .val (.int vo), .val (.int ((vw &&& (2147483647 : Int32)) % (6 : Int32))), .unset, .unset, .unset, .unset, .unset, .unset] []))
      refine OGo.on (fun t k => XS.iconst X0.here hx rfl (hb hby at_44) k) ?_
      show OGo p e below s _ _ _ (s₁.setTop (mkF m 45 #[.val (.int vw), .val (.int va), .val (.int vb), .val (.int vc), .val (.int vs), .val (.int vq), .val (.int vo), .val (.int ((vw &&& (2147483647 : Int32)) % (6 : Int32))), .unset, .unset, .unset, .unset, .unset, .unset] [(.int (2 : Int32))]))
      refine OGo.on (fun t k => XS.istore X0.here hx rfl (hb hby at_45) rfl (l' := #[.val (.int vw), .val (.int va), .val (.int vb), .val (.int vc), .val (.int vs), .val (.int vq), .val (.int vo), .val (.int ((vw &&& (2147483647 : Int32)) % (6 : Int32))), .val (.int (2 : Int32)), .unset, .unset, .unset, .unset, .unset]) rfl k) ?_
      show OGo p e below s _ _ _ (s₁.setTop (mkF m 47 #[.val (.int vw), .val (.int va), .val (.int vb), .val (.int vc), .val (.int vs), .val (.int vq), .val (.int vo), .val (.int ((vw &&& (2147483647 : Int32)) % (6 : Int32))), .val (.int (2 : Int32)), .unset, .unset, .unset, .unset, .unset] []))
      refine OGo.on (fun t k => XS.goto X0.here hx rfl (pc0 := 47) (pc' := 90) rfl (hb hby at_47) (by decide) (by decide) k) ?_
      show OGo p e below s _ _ _ (s₁.setTop (mkF m 90 #[.val (.int vw), .val (.int va), .val (.int vb), .val (.int vc), .val (.int vs), .val (.int vq), .val (.int vo), .val (.int ((vw &&& (2147483647 : Int32)) % (6 : Int32))), .val (.int (2 : Int32)), .unset, .unset, .unset, .unset, .unset] []))
      obtain ⟨T194, h194, X194, e194, E194, A194, D194, -, st194⟩ := newO X0 hx hZ hown (hw _ (List.mem_of_getElem? (i := 1) rfl)) (hw _ (List.mem_of_getElem? (i := 2) rfl)) (hw _ (List.mem_of_getElem? (i := 3) rfl)) e0 (g := (mkF m 90 #[.val (.int vw), .val (.int va), .val (.int vb), .val (.int vc), .val (.int vs), .val (.int vq), .val (.int vo), .val (.int ((vw &&& (2147483647 : Int32)) % (6 : Int32))), .val (.int (2 : Int32)), .unset, .unset, .unset, .unset, .unset] [])) rfl (hb hby at_90) (by decide) (by decide)
      obtain ⟨b194, g194⟩ : ∃ z, z = h0.size := ⟨_, rfl⟩
      rw [← g194] at A194 D194 st194
      have ge195 : n0 ≤ b194 := Nat.le_trans Z0 (Nat.le_of_eq g194.symm)
      have Z196 : n0 ≤ h194.size := Nat.le_trans Z0 E194.1
      have f197 : Fld Z h194 b194 "org/surnia/graph/Chains" "newest" "Lorg/surnia/graph/LongIntMap;" .null := D194 (Or.inr (hw _ (List.mem_of_getElem? (i := 32) rfl))) (ty := (.object "org/surnia/graph/LongIntMap")) (by decide)
      have f198 : Fld Z h194 b194 "org/surnia/graph/Chains" "older" "[I" .null := D194 (Or.inl (hw _ (List.mem_of_getElem? (i := 34) rfl))) (ty := (.array .int)) (by decide)
      have f199 : Fld Z h194 b194 "org/surnia/graph/Chains" "places" "I" (.int (0 : Int32)) := D194 (Or.inr (hw _ (List.mem_of_getElem? (i := 36) rfl))) (ty := .int) (by decide)
      refine OGo.on st194 ?_
      show OGo p e below s _ _ _ (T194.setTop (mkF m 93 #[.val (.int vw), .val (.int va), .val (.int vb), .val (.int vc), .val (.int vs), .val (.int vq), .val (.int vo), .val (.int ((vw &&& (2147483647 : Int32)) % (6 : Int32))), .val (.int (2 : Int32)), .unset, .unset, .unset, .unset, .unset] [(.ref b194)]))
      refine OGo.on (fun t k => XS.dup X194.here hx rfl (hb hby at_93) rfl rfl k) ?_
      show OGo p e below s _ _ _ (T194.setTop (mkF m 94 #[.val (.int vw), .val (.int va), .val (.int vb), .val (.int vc), .val (.int vs), .val (.int vq), .val (.int vo), .val (.int ((vw &&& (2147483647 : Int32)) % (6 : Int32))), .val (.int (2 : Int32)), .unset, .unset, .unset, .unset, .unset] [(.ref b194), (.ref b194)]))
      refine OGo.on (fun t k => XS.iload X194.here hx rfl (hb hby at_94) rfl k) ?_
      show OGo p e below s _ _ _ (T194.setTop (mkF m 96 #[.val (.int vw), .val (.int va), .val (.int vb), .val (.int vc), .val (.int vs), .val (.int vq), .val (.int vo), .val (.int ((vw &&& (2147483647 : Int32)) % (6 : Int32))), .val (.int (2 : Int32)), .unset, .unset, .unset, .unset, .unset] [(.int (2 : Int32)), (.ref b194), (.ref b194)]))
      obtain ⟨_, _, ⟨T200, L200, k200, n200⟩, -, X200, ⟨Lc200, hQ200, l200, y200, z200⟩, st200⟩ := X194.specialBack hx (y := (⟨"org/surnia/graph/Chains", "<init>", "(I)V"⟩ : MethodName)) rfl hown (mvT hZ (hw _ (List.mem_of_getElem? (i := 4) rfl))) (mvT hZ (hw _ (List.mem_of_getElem? (i := 5) rfl))) (mvT hZ (hw _ (List.mem_of_getElem? (i := 6) rfl))) (by decide) (backOf (W := 1) (own_chinit l Z a0 hw [] b194 (2 : Int32) h194 n0 Z196 ge195 A194 f197 f198 f199) hZ (hw _ (List.mem_of_getElem? (i := 6) rfl)) (hw _ (List.mem_of_getElem? (i := 3) rfl)) (by decide) (by decide)) (g := (mkF m 96 #[.val (.int vw), .val (.int va), .val (.int vb), .val (.int vc), .val (.int vs), .val (.int vq), .val (.int vo), .val (.int ((vw &&& (2147483647 : Int32)) % (6 : Int32))), .val (.int (2 : Int32)), .unset, .unset, .unset, .unset, .unset] [(.int (2 : Int32)), (.ref b194), (.ref b194)])) rfl (by rw [hml]; rfl) (Steps.refl _) (a := b194) (argsL := [(.int (2 : Int32))]) (rest := [(.ref b194)]) (lenOf own_pd3 rfl) rfl (by show 2 * 0 + _ ≤ _; exact Nat.le_of_eq rfl) (hb hby at_96) (fun _ _ => ⟨rfl, e194, (by decide : 1 + 4 ≤ _), (by decide : 3 + 51 ≤ _)⟩)
      dsimp only [Pt.U, Pt.locs, Pt.cells, Pt.slots] at X200 l200 y200 z200 st200 hQ200
      subst l200 y200 z200
      obtain ⟨rfl, N200q, K200, Fp200⟩ := hQ200
      have N200 := Fr.app N0 N200q
      have f201 : Exa Z T200.heap b194 "org/surnia/graph/Chains" := A194.keep K200
      have Z202 : n0 ≤ T200.heap.size := Nat.le_trans Z196 K200.1
      have eh200 : T200.heap = T200.heap := rfl
      refine OGo.on (fun t k => st200.trans k) ?_
      show OGo p e below s _ _ _ (T200.setTop (mkF m 99 #[.val (.int vw), .val (.int va), .val (.int vb), .val (.int vc), .val (.int vs), .val (.int vq), .val (.int vo), .val (.int ((vw &&& (2147483647 : Int32)) % (6 : Int32))), .val (.int (2 : Int32)), .unset, .unset, .unset, .unset, .unset] [(.ref b194)]))
      refine OGo.on (fun t k => XS.astore X200.here hx rfl (hb hby at_99) rfl rfl (l' := #[.val (.int vw), .val (.int va), .val (.int vb), .val (.int vc), .val (.int vs), .val (.int vq), .val (.int vo), .val (.int ((vw &&& (2147483647 : Int32)) % (6 : Int32))), .val (.int (2 : Int32)), .val (.ref b194), .unset, .unset, .unset, .unset]) rfl k) ?_
      show OGo p e below s _ _ _ (T200.setTop (mkF m 101 #[.val (.int vw), .val (.int va), .val (.int vb), .val (.int vc), .val (.int vs), .val (.int vq), .val (.int vo), .val (.int ((vw &&& (2147483647 : Int32)) % (6 : Int32))), .val (.int (2 : Int32)), .val (.ref b194), .unset, .unset, .unset, .unset] []))
      refine OGo.on (fun t k => XS.aload X200.here hx rfl (hb hby at_101) rfl rfl k) ?_
      show OGo p e below s _ _ _ (T200.setTop (mkF m 103 #[.val (.int vw), .val (.int va), .val (.int vb), .val (.int vc), .val (.int vs), .val (.int vq), .val (.int vo), .val (.int ((vw &&& (2147483647 : Int32)) % (6 : Int32))), .val (.int (2 : Int32)), .val (.ref b194), .unset, .unset, .unset, .unset] [(.ref b194)]))
      refine OGo.on (fun t k => XS.iload X200.here hx rfl (hb hby at_103) rfl k) ?_
      show OGo p e below s _ _ _ (T200.setTop (mkF m 105 #[.val (.int vw), .val (.int va), .val (.int vb), .val (.int vc), .val (.int vs), .val (.int vq), .val (.int vo), .val (.int ((vw &&& (2147483647 : Int32)) % (6 : Int32))), .val (.int (2 : Int32)), .val (.ref b194), .unset, .unset, .unset, .unset] [(.int vs), (.ref b194)]))
      refine OGo.on (fun t k => XS.iload X200.here hx rfl (hb hby at_105) rfl k) ?_
      show OGo p e below s _ _ _ (T200.setTop (mkF m 107 #[.val (.int vw), .val (.int va), .val (.int vb), .val (.int vc), .val (.int vs), .val (.int vq), .val (.int vo), .val (.int ((vw &&& (2147483647 : Int32)) % (6 : Int32))), .val (.int (2 : Int32)), .val (.ref b194), .unset, .unset, .unset, .unset] [(.int vq), (.int vs), (.ref b194)]))
      refine OGo.on (fun t k => XS.iload X200.here hx rfl (hb hby at_107) rfl k) ?_
      show OGo p e below s _ _ _ (T200.setTop (mkF m 109 #[.val (.int vw), .val (.int va), .val (.int vb), .val (.int vc), .val (.int vs), .val (.int vq), .val (.int vo), .val (.int ((vw &&& (2147483647 : Int32)) % (6 : Int32))), .val (.int (2 : Int32)), .val (.ref b194), .unset, .unset, .unset, .unset] [(.int vo), (.int vq), (.int vs), (.ref b194)]))
      obtain ⟨cq203, kq203, q203a, q203b, q203c⟩ := isOf hZ eh200 f201
      obtain ⟨_, _, ⟨T203, L203, k203, n203⟩, -, X203, ⟨Lc203, hQ203, l203, y203, z203⟩, st203⟩ := X200.virtualBack hx (y := (⟨"org/surnia/graph/Chains", "key", "(III)J"⟩ : MethodName)) (z := (⟨"org/surnia/graph/Chains", "key", "(III)J"⟩ : MethodName)) hown (mvT hZ (hw _ (List.mem_of_getElem? (i := 37) rfl))) (mvT hZ (hw _ (List.mem_of_getElem? (i := 38) rfl))) (notFace_of_selects (args := #[]) (mvT hZ (hw _ (List.mem_of_getElem? (i := 40) rfl)))) (mvT hZ (hw _ (List.mem_of_getElem? (i := 40) rfl))) (mvT hZ (hw _ (List.mem_of_getElem? (i := 39) rfl))) (by decide) (backOf (W := 0) (own_mkey l Z a0 hw [] b194 vs vq vo (2 : Int32) T200.heap n0 Z202 Fp200) hZ (hw _ (List.mem_of_getElem? (i := 41) rfl)) (hw _ (List.mem_of_getElem? (i := 3) rfl)) (by decide) (by decide)) q203a q203c (g := (mkF m 109 #[.val (.int vw), .val (.int va), .val (.int vb), .val (.int vc), .val (.int vs), .val (.int vq), .val (.int vo), .val (.int ((vw &&& (2147483647 : Int32)) % (6 : Int32))), .val (.int (2 : Int32)), .val (.ref b194), .unset, .unset, .unset, .unset] [(.int vo), (.int vq), (.int vs), (.ref b194)])) rfl (by rw [hml]; rfl) (Steps.refl _) (argsL := [(.int vs), (.int vq), (.int vo)]) (rest := []) (lenOf own_pd4 rfl) rfl (by show 2 * 0 + _ ≤ _; exact Nat.le_of_eq rfl) (hb hby at_109) (fun _ _ => ⟨rfl, eh200, (by decide : 5 + 0 ≤ _), (by decide : 54 + 0 ≤ _)⟩)
      dsimp only [Pt.U, Pt.locs, Pt.cells, Pt.slots] at X203 l203 y203 z203 st203 hQ203
      subst l203 y203 z203
      obtain ⟨rfl, N203q, e203⟩ := hQ203
      have N203 := Fr.app N200 N203q
      refine OGo.on (fun t k => st203.trans k) ?_
      show OGo p e below s _ _ _ (T203.setTop (mkF m 112 #[.val (.int vw), .val (.int va), .val (.int vb), .val (.int vc), .val (.int vs), .val (.int vq), .val (.int vo), .val (.int ((vw &&& (2147483647 : Int32)) % (6 : Int32))), .val (.int (2 : Int32)), .val (.ref b194), .unset, .unset, .unset, .unset] [(.long (own_key (2 : Int32) vs vq vo))]))
      refine OGo.on (fun t k => XS.lstore X203.here hx rfl (hb hby at_112) rfl (l' := #[.val (.int vw), .val (.int va), .val (.int vb), .val (.int vc), .val (.int vs), .val (.int vq), .val (.int vo), .val (.int ((vw &&& (2147483647 : Int32)) % (6 : Int32))), .val (.int (2 : Int32)), .val (.ref b194), .val (.long (own_key (2 : Int32) vs vq vo)), .second, .unset, .unset]) rfl k) ?_
      show OGo p e below s _ _ _ (T203.setTop (mkF m 114 #[.val (.int vw), .val (.int va), .val (.int vb), .val (.int vc), .val (.int vs), .val (.int vq), .val (.int vo), .val (.int ((vw &&& (2147483647 : Int32)) % (6 : Int32))), .val (.int (2 : Int32)), .val (.ref b194), .val (.long (own_key (2 : Int32) vs vq vo)), .second, .unset, .unset] []))
      refine OGo.on (fun t k => XS.iload X203.here hx rfl (hb hby at_114) rfl k) ?_
      show OGo p e below s _ _ _ (T203.setTop (mkF m 116 #[.val (.int vw), .val (.int va), .val (.int vb), .val (.int vc), .val (.int vs), .val (.int vq), .val (.int vo), .val (.int ((vw &&& (2147483647 : Int32)) % (6 : Int32))), .val (.int (2 : Int32)), .val (.ref b194), .val (.long (own_key (2 : Int32) vs vq vo)), .second, .unset, .unset] [(.int (2 : Int32))]))
      refine OGo.on (fun t k => XS.iconst X203.here hx rfl (hb hby at_116) k) ?_
      show OGo p e below s _ _ _ (T203.setTop (mkF m 117 #[.val (.int vw), .val (.int va), .val (.int vb), .val (.int vc), .val (.int vs), .val (.int vq), .val (.int vo), .val (.int ((vw &&& (2147483647 : Int32)) % (6 : Int32))), .val (.int (2 : Int32)), .val (.ref b194), .val (.long (own_key (2 : Int32) vs vq vo)), .second, .unset, .unset] [(.int (1 : Int32)), (.int (2 : Int32))]))
      refine OGo.on (fun t k => XS.icmpYes X203.here hx rfl (pc0 := 117) (pc' := 128) rfl (hb hby at_117) rfl (feq (by decide)).2 (by decide) (by decide) k) ?_
      show OGo p e below s _ _ _ (T203.setTop (mkF m 128 #[.val (.int vw), .val (.int va), .val (.int vb), .val (.int vc), .val (.int vs), .val (.int vq), .val (.int vo), .val (.int ((vw &&& (2147483647 : Int32)) % (6 : Int32))), .val (.int (2 : Int32)), .val (.ref b194), .val (.long (own_key (2 : Int32) vs vq vo)), .second, .unset, .unset] []))
      refine OGo.on (fun t k => XS.iload X203.here hx rfl (hb hby at_128) rfl k) ?_
      show OGo p e below s _ _ _ (T203.setTop (mkF m 130 #[.val (.int vw), .val (.int va), .val (.int vb), .val (.int vc), .val (.int vs), .val (.int vq), .val (.int vo), .val (.int ((vw &&& (2147483647 : Int32)) % (6 : Int32))), .val (.int (2 : Int32)), .val (.ref b194), .val (.long (own_key (2 : Int32) vs vq vo)), .second, .unset, .unset] [(.int (2 : Int32))]))
      refine OGo.on (fun t k => XS.iconst X203.here hx rfl (hb hby at_130) k) ?_
      show OGo p e below s _ _ _ (T203.setTop (mkF m 131 #[.val (.int vw), .val (.int va), .val (.int vb), .val (.int vc), .val (.int vs), .val (.int vq), .val (.int vo), .val (.int ((vw &&& (2147483647 : Int32)) % (6 : Int32))), .val (.int (2 : Int32)), .val (.ref b194), .val (.long (own_key (2 : Int32) vs vq vo)), .second, .unset, .unset] [(.int (2 : Int32)), (.int (2 : Int32))]))
      refine OGo.on (fun t k => XS.icmpNo X203.here hx rfl (hb hby at_131) rfl (teq (by decide)).2 k) ?_
      show OGo p e below s _ _ _ (T203.setTop (mkF m 134 #[.val (.int vw), .val (.int va), .val (.int vb), .val (.int vc), .val (.int vs), .val (.int vq), .val (.int vo), .val (.int ((vw &&& (2147483647 : Int32)) % (6 : Int32))), .val (.int (2 : Int32)), .val (.ref b194), .val (.long (own_key (2 : Int32) vs vq vo)), .second, .unset, .unset] []))
      refine OGo.on (fun t k => XS.iload X203.here hx rfl (hb hby at_134) rfl k) ?_
      show OGo p e below s _ _ _ (T203.setTop (mkF m 136 #[.val (.int vw), .val (.int va), .val (.int vb), .val (.int vc), .val (.int vs), .val (.int vq), .val (.int vo), .val (.int ((vw &&& (2147483647 : Int32)) % (6 : Int32))), .val (.int (2 : Int32)), .val (.ref b194), .val (.long (own_key (2 : Int32) vs vq vo)), .second, .unset, .unset] [(.int vq)]))
      refine OGo.on (fun t k => XS.i2l X203.here hx rfl (hb hby at_136) rfl k) ?_
      show OGo p e below s _ _ _ (T203.setTop (mkF m 137 #[.val (.int vw), .val (.int va), .val (.int vb), .val (.int vc), .val (.int vs), .val (.int vq), .val (.int vo), .val (.int ((vw &&& (2147483647 : Int32)) % (6 : Int32))), .val (.int (2 : Int32)), .val (.ref b194), .val (.long (own_key (2 : Int32) vs vq vo)), .second, .unset, .unset] [(.long (vq.toInt64))]))
      refine OGo.on (fun t k => XS.lstore X203.here hx rfl (hb hby at_137) rfl (l' := #[.val (.int vw), .val (.int va), .val (.int vb), .val (.int vc), .val (.int vs), .val (.int vq), .val (.int vo), .val (.int ((vw &&& (2147483647 : Int32)) % (6 : Int32))), .val (.int (2 : Int32)), .val (.ref b194), .val (.long (own_key (2 : Int32) vs vq vo)), .second, .val (.long (vq.toInt64)), .second]) rfl k) ?_
      show OGo p e below s _ _ _ (T203.setTop (mkF m 139 #[.val (.int vw), .val (.int va), .val (.int vb), .val (.int vc), .val (.int vs), .val (.int vq), .val (.int vo), .val (.int ((vw &&& (2147483647 : Int32)) % (6 : Int32))), .val (.int (2 : Int32)), .val (.ref b194), .val (.long (own_key (2 : Int32) vs vq vo)), .second, .val (.long (vq.toInt64)), .second] []))
      refine OGo.on (fun t k => XS.goto X203.here hx rfl (pc0 := 139) (pc' := 213) rfl (hb hby at_139) (by decide) (by decide) k) ?_
      show OGo p e below s _ _ _ (T203.setTop (mkF m 213 #[.val (.int vw), .val (.int va), .val (.int vb), .val (.int vc), .val (.int vs), .val (.int vq), .val (.int vo), .val (.int ((vw &&& (2147483647 : Int32)) % (6 : Int32))), .val (.int (2 : Int32)), .val (.ref b194), .val (.long (own_key (2 : Int32) vs vq vo)), .second, .val (.long (vq.toInt64)), .second] []))
      refine OGo.on (fun t k => XS.lload X203.here hx rfl (hb hby at_213) rfl k) ?_
      show OGo p e below s _ _ _ (T203.setTop (mkF m 215 #[.val (.int vw), .val (.int va), .val (.int vb), .val (.int vc), .val (.int vs), .val (.int vq), .val (.int vo), .val (.int ((vw &&& (2147483647 : Int32)) % (6 : Int32))), .val (.int (2 : Int32)), .val (.ref b194), .val (.long (own_key (2 : Int32) vs vq vo)), .second, .val (.long (vq.toInt64)), .second] [(.long (own_key (2 : Int32) vs vq vo))]))
      refine OGo.on (fun t k => XS.lload X203.here hx rfl (hb hby at_215) rfl k) ?_
      show OGo p e below s _ _ _ (T203.setTop (mkF m 217 #[.val (.int vw), .val (.int va), .val (.int vb), .val (.int vc), .val (.int vs), .val (.int vq), .val (.int vo), .val (.int ((vw &&& (2147483647 : Int32)) % (6 : Int32))), .val (.int (2 : Int32)), .val (.ref b194), .val (.long (own_key (2 : Int32) vs vq vo)), .second, .val (.long (vq.toInt64)), .second] [(.long (vq.toInt64)), (.long (own_key (2 : Int32) vs vq vo))]))
      refine OGo.on (fun t k => XS.lcmp X203.here hx rfl (hb hby at_217) rfl k) ?_
      show OGo p e below s _ _ _ (T203.setTop (mkF m 218 #[.val (.int vw), .val (.int va), .val (.int vb), .val (.int vc), .val (.int vs), .val (.int vq), .val (.int vo), .val (.int ((vw &&& (2147483647 : Int32)) % (6 : Int32))), .val (.int (2 : Int32)), .val (.ref b194), .val (.long (own_key (2 : Int32) vs vq vo)), .second, .val (.long (vq.toInt64)), .second] [(.int (lcmpW (own_key (2 : Int32) vs vq vo) (vq.toInt64)))]))
      refine OGo.on (fun t k => XS.ifNo X203.here hx rfl (hb hby at_218) rfl (lc_teq (own_p2 vs vq vo)).2 k) ?_
      show OGo p e below s _ _ _ (T203.setTop (mkF m 221 #[.val (.int vw), .val (.int va), .val (.int vb), .val (.int vc), .val (.int vs), .val (.int vq), .val (.int vo), .val (.int ((vw &&& (2147483647 : Int32)) % (6 : Int32))), .val (.int (2 : Int32)), .val (.ref b194), .val (.long (own_key (2 : Int32) vs vq vo)), .second, .val (.long (vq.toInt64)), .second] []))
      refine OGo.on (fun t k => XS.aload X203.here hx rfl (hb hby at_221) rfl rfl k) ?_
      show OGo p e below s _ _ _ (T203.setTop (mkF m 223 #[.val (.int vw), .val (.int va), .val (.int vb), .val (.int vc), .val (.int vs), .val (.int vq), .val (.int vo), .val (.int ((vw &&& (2147483647 : Int32)) % (6 : Int32))), .val (.int (2 : Int32)), .val (.ref b194), .val (.long (own_key (2 : Int32) vs vq vo)), .second, .val (.long (vq.toInt64)), .second] [(.ref b194)]))
      obtain ⟨cq204, kq204, q204a, q204b, q204c⟩ := isOf hZ e203 f201
      obtain ⟨_, _, ⟨T204, L204, k204, n204⟩, -, X204, ⟨Lc204, hQ204, l204, y204, z204⟩, st204⟩ := X203.virtualBack hx (y := (⟨"org/surnia/graph/Chains", "places", "()I"⟩ : MethodName)) (z := (⟨"org/surnia/graph/Chains", "places", "()I"⟩ : MethodName)) hown (mvT hZ (hw _ (List.mem_of_getElem? (i := 42) rfl))) (mvT hZ (hw _ (List.mem_of_getElem? (i := 43) rfl))) (notFace_of_selects (args := #[]) (mvT hZ (hw _ (List.mem_of_getElem? (i := 45) rfl)))) (mvT hZ (hw _ (List.mem_of_getElem? (i := 45) rfl))) (mvT hZ (hw _ (List.mem_of_getElem? (i := 44) rfl))) (by decide) (backOf (W := 0) (own_mplaces l Z a0 hw [] b194 (2 : Int32) T200.heap n0 Z202 Fp200) hZ (hw _ (List.mem_of_getElem? (i := 46) rfl)) (hw _ (List.mem_of_getElem? (i := 3) rfl)) (by decide) (by decide)) q204a q204c (g := (mkF m 223 #[.val (.int vw), .val (.int va), .val (.int vb), .val (.int vc), .val (.int vs), .val (.int vq), .val (.int vo), .val (.int ((vw &&& (2147483647 : Int32)) % (6 : Int32))), .val (.int (2 : Int32)), .val (.ref b194), .val (.long (own_key (2 : Int32) vs vq vo)), .second, .val (.long (vq.toInt64)), .second] [(.ref b194)])) rfl (by rw [hml]; rfl) (Steps.refl _) (argsL := []) (rest := []) (lenOf own_pd5 rfl) rfl (by show 2 * 0 + _ ≤ _; exact Nat.le_of_eq rfl) (hb hby at_223) (fun _ _ => ⟨rfl, e203, (by decide : 5 + 0 ≤ _), (by decide : 54 + 0 ≤ _)⟩)
      dsimp only [Pt.U, Pt.locs, Pt.cells, Pt.slots] at X204 l204 y204 z204 st204 hQ204
      subst l204 y204 z204
      obtain ⟨rfl, N204q, e204⟩ := hQ204
      have N204 := Fr.app N203 N204q
      refine OGo.on (fun t k => st204.trans k) ?_
      show OGo p e below s _ _ _ (T204.setTop (mkF m 226 #[.val (.int vw), .val (.int va), .val (.int vb), .val (.int vc), .val (.int vs), .val (.int vq), .val (.int vo), .val (.int ((vw &&& (2147483647 : Int32)) % (6 : Int32))), .val (.int (2 : Int32)), .val (.ref b194), .val (.long (own_key (2 : Int32) vs vq vo)), .second, .val (.long (vq.toInt64)), .second] [(.int (2 : Int32))]))
      refine OGo.on (fun t k => XS.iload X204.here hx rfl (hb hby at_226) rfl k) ?_
      show OGo p e below s _ _ _ (T204.setTop (mkF m 228 #[.val (.int vw), .val (.int va), .val (.int vb), .val (.int vc), .val (.int vs), .val (.int vq), .val (.int vo), .val (.int ((vw &&& (2147483647 : Int32)) % (6 : Int32))), .val (.int (2 : Int32)), .val (.ref b194), .val (.long (own_key (2 : Int32) vs vq vo)), .second, .val (.long (vq.toInt64)), .second] [(.int (2 : Int32)), (.int (2 : Int32))]))
      refine OGo.on (fun t k => XS.icmpNo X204.here hx rfl (hb hby at_228) rfl (teq (by decide)).2 k) ?_
      show OGo p e below s _ _ _ (T204.setTop (mkF m 231 #[.val (.int vw), .val (.int va), .val (.int vb), .val (.int vc), .val (.int vs), .val (.int vq), .val (.int vo), .val (.int ((vw &&& (2147483647 : Int32)) % (6 : Int32))), .val (.int (2 : Int32)), .val (.ref b194), .val (.long (own_key (2 : Int32) vs vq vo)), .second, .val (.long (vq.toInt64)), .second] []))
      refine OGo.on (fun t k => XS.iconst X204.here hx rfl (hb hby at_231) k) ?_
      show OGo p e below s _ _ _ (T204.setTop (mkF m 232 #[.val (.int vw), .val (.int va), .val (.int vb), .val (.int vc), .val (.int vs), .val (.int vq), .val (.int vo), .val (.int ((vw &&& (2147483647 : Int32)) % (6 : Int32))), .val (.int (2 : Int32)), .val (.ref b194), .val (.long (own_key (2 : Int32) vs vq vo)), .second, .val (.long (vq.toInt64)), .second] [(.int (1 : Int32))]))
      refine OGo.on (fun t k => XS.goto X204.here hx rfl (pc0 := 232) (pc' := 236) rfl (hb hby at_232) (by decide) (by decide) k) ?_
      show OGo p e below s _ _ _ (T204.setTop (mkF m 236 #[.val (.int vw), .val (.int va), .val (.int vb), .val (.int vc), .val (.int vs), .val (.int vq), .val (.int vo), .val (.int ((vw &&& (2147483647 : Int32)) % (6 : Int32))), .val (.int (2 : Int32)), .val (.ref b194), .val (.long (own_key (2 : Int32) vs vq vo)), .second, .val (.long (vq.toInt64)), .second] [(.int (1 : Int32))]))
      exact OGo.retN X204 hx (t := .boolean) hret hlk (by simp) (hb hby at_236) ⟨rfl, N204⟩ (by decide) (by decide)
    · refine OGo.on (fun t k => XS.icmpYes X0.here hx rfl (pc0 := 41) (pc' := 50) rfl (hb hby at_41) rfl (feq hc193).2 (by decide) (by decide) k) ?_
      show OGo p e below s _ _ _ (s₁.setTop (mkF m 50 #[.val (.int vw), .val (.int va), .val (.int vb), .val (.int vc), .val (.int vs), .val (.int vq), .val (.int vo), .val (.int ((vw &&& (2147483647 : Int32)) % (6 : Int32))), .unset, .unset, .unset, .unset, .unset, .unset] []))
      refine OGo.on (fun t k => XS.iload X0.here hx rfl (hb hby at_50) rfl k) ?_
      show OGo p e below s _ _ _ (s₁.setTop (mkF m 52 #[.val (.int vw), .val (.int va), .val (.int vb), .val (.int vc), .val (.int vs), .val (.int vq), .val (.int vo), .val (.int ((vw &&& (2147483647 : Int32)) % (6 : Int32))), .unset, .unset, .unset, .unset, .unset, .unset] [(.int ((vw &&& (2147483647 : Int32)) % (6 : Int32)))]))
      refine OGo.on (fun t k => XS.iconst X0.here hx rfl (hb hby at_52) k) ?_
      show OGo p e below s _ _ _ (s₁.setTop (mkF m 53 #[.val (.int vw), .val (.int va), .val (.int vb), .val (.int vc), .val (.int vs), .val (.int vq), .val (.int vo), .val (.int ((vw &&& (2147483647 : Int32)) % (6 : Int32))), .unset, .unset, .unset, .unset, .unset, .unset] [(.int (2 : Int32)), (.int ((vw &&& (2147483647 : Int32)) % (6 : Int32)))]))
      by_cases hc205 : ((vw &&& (2147483647 : Int32)) % (6 : Int32)) = (2 : Int32)
      · refine OGo.on (fun t k => XS.icmpNo X0.here hx rfl (hb hby at_53) rfl (teq hc205).2 k) ?_
        show OGo p e below s _ _ _ (s₁.setTop (mkF m 56 #[.val (.int vw), .val (.int va), .val (.int vb), .val (.int vc), .val (.int vs), .val (.int vq), .val (.int vo), .val (.int ((vw &&& (2147483647 : Int32)) % (6 : Int32))), .unset, .unset, .unset, .unset, .unset, .unset] []))
        refine OGo.on (fun t k => XS.iconst X0.here hx rfl (hb hby at_56) k) ?_
        show OGo p e below s _ _ _ (s₁.setTop (mkF m 57 #[.val (.int vw), .val (.int va), .val (.int vb), .val (.int vc), .val (.int vs), .val (.int vq), .val (.int vo), .val (.int ((vw &&& (2147483647 : Int32)) % (6 : Int32))), .unset, .unset, .unset, .unset, .unset, .unset] [(.int (4 : Int32))]))
        refine OGo.on (fun t k => XS.istore X0.here hx rfl (hb hby at_57) rfl (l' := #[.val (.int vw), .val (.int va), .val (.int vb), .val (.int vc), .val (.int vs), .val (.int vq), .val (.int vo), .val (.int ((vw &&& (2147483647 : Int32)) % (6 : Int32))), .val (.int (4 : Int32)), .unset, .unset, .unset, .unset, .unset]) rfl k) ?_
        show OGo p e below s _ _ _ (s₁.setTop (mkF m 59 #[.val (.int vw), .val (.int va), .val (.int vb), .val (.int vc), .val (.int vs), .val (.int vq), .val (.int vo), .val (.int ((vw &&& (2147483647 : Int32)) % (6 : Int32))), .val (.int (4 : Int32)), .unset, .unset, .unset, .unset, .unset] []))
        refine OGo.on (fun t k => XS.goto X0.here hx rfl (pc0 := 59) (pc' := 90) rfl (hb hby at_59) (by decide) (by decide) k) ?_
        show OGo p e below s _ _ _ (s₁.setTop (mkF m 90 #[.val (.int vw), .val (.int va), .val (.int vb), .val (.int vc), .val (.int vs), .val (.int vq), .val (.int vo), .val (.int ((vw &&& (2147483647 : Int32)) % (6 : Int32))), .val (.int (4 : Int32)), .unset, .unset, .unset, .unset, .unset] []))
        obtain ⟨T206, h206, X206, e206, E206, A206, D206, -, st206⟩ := newO X0 hx hZ hown (hw _ (List.mem_of_getElem? (i := 1) rfl)) (hw _ (List.mem_of_getElem? (i := 2) rfl)) (hw _ (List.mem_of_getElem? (i := 3) rfl)) e0 (g := (mkF m 90 #[.val (.int vw), .val (.int va), .val (.int vb), .val (.int vc), .val (.int vs), .val (.int vq), .val (.int vo), .val (.int ((vw &&& (2147483647 : Int32)) % (6 : Int32))), .val (.int (4 : Int32)), .unset, .unset, .unset, .unset, .unset] [])) rfl (hb hby at_90) (by decide) (by decide)
        obtain ⟨b206, g206⟩ : ∃ z, z = h0.size := ⟨_, rfl⟩
        rw [← g206] at A206 D206 st206
        have ge207 : n0 ≤ b206 := Nat.le_trans Z0 (Nat.le_of_eq g206.symm)
        have Z208 : n0 ≤ h206.size := Nat.le_trans Z0 E206.1
        have f209 : Fld Z h206 b206 "org/surnia/graph/Chains" "newest" "Lorg/surnia/graph/LongIntMap;" .null := D206 (Or.inr (hw _ (List.mem_of_getElem? (i := 32) rfl))) (ty := (.object "org/surnia/graph/LongIntMap")) (by decide)
        have f210 : Fld Z h206 b206 "org/surnia/graph/Chains" "older" "[I" .null := D206 (Or.inl (hw _ (List.mem_of_getElem? (i := 34) rfl))) (ty := (.array .int)) (by decide)
        have f211 : Fld Z h206 b206 "org/surnia/graph/Chains" "places" "I" (.int (0 : Int32)) := D206 (Or.inr (hw _ (List.mem_of_getElem? (i := 36) rfl))) (ty := .int) (by decide)
        refine OGo.on st206 ?_
        show OGo p e below s _ _ _ (T206.setTop (mkF m 93 #[.val (.int vw), .val (.int va), .val (.int vb), .val (.int vc), .val (.int vs), .val (.int vq), .val (.int vo), .val (.int ((vw &&& (2147483647 : Int32)) % (6 : Int32))), .val (.int (4 : Int32)), .unset, .unset, .unset, .unset, .unset] [(.ref b206)]))
        refine OGo.on (fun t k => XS.dup X206.here hx rfl (hb hby at_93) rfl rfl k) ?_
        show OGo p e below s _ _ _ (T206.setTop (mkF m 94 #[.val (.int vw), .val (.int va), .val (.int vb), .val (.int vc), .val (.int vs), .val (.int vq), .val (.int vo), .val (.int ((vw &&& (2147483647 : Int32)) % (6 : Int32))), .val (.int (4 : Int32)), .unset, .unset, .unset, .unset, .unset] [(.ref b206), (.ref b206)]))
        refine OGo.on (fun t k => XS.iload X206.here hx rfl (hb hby at_94) rfl k) ?_
        show OGo p e below s _ _ _ (T206.setTop (mkF m 96 #[.val (.int vw), .val (.int va), .val (.int vb), .val (.int vc), .val (.int vs), .val (.int vq), .val (.int vo), .val (.int ((vw &&& (2147483647 : Int32)) % (6 : Int32))), .val (.int (4 : Int32)), .unset, .unset, .unset, .unset, .unset] [(.int (4 : Int32)), (.ref b206), (.ref b206)]))
        obtain ⟨_, _, ⟨T212, L212, k212, n212⟩, -, X212, ⟨Lc212, hQ212, l212, y212, z212⟩, st212⟩ := X206.specialBack hx (y := (⟨"org/surnia/graph/Chains", "<init>", "(I)V"⟩ : MethodName)) rfl hown (mvT hZ (hw _ (List.mem_of_getElem? (i := 4) rfl))) (mvT hZ (hw _ (List.mem_of_getElem? (i := 5) rfl))) (mvT hZ (hw _ (List.mem_of_getElem? (i := 6) rfl))) (by decide) (backOf (W := 1) (own_chinit l Z a0 hw [] b206 (4 : Int32) h206 n0 Z208 ge207 A206 f209 f210 f211) hZ (hw _ (List.mem_of_getElem? (i := 6) rfl)) (hw _ (List.mem_of_getElem? (i := 3) rfl)) (by decide) (by decide)) (g := (mkF m 96 #[.val (.int vw), .val (.int va), .val (.int vb), .val (.int vc), .val (.int vs), .val (.int vq), .val (.int vo), .val (.int ((vw &&& (2147483647 : Int32)) % (6 : Int32))), .val (.int (4 : Int32)), .unset, .unset, .unset, .unset, .unset] [(.int (4 : Int32)), (.ref b206), (.ref b206)])) rfl (by rw [hml]; rfl) (Steps.refl _) (a := b206) (argsL := [(.int (4 : Int32))]) (rest := [(.ref b206)]) (lenOf own_pd3 rfl) rfl (by show 2 * 0 + _ ≤ _; exact Nat.le_of_eq rfl) (hb hby at_96) (fun _ _ => ⟨rfl, e206, (by decide : 1 + 4 ≤ _), (by decide : 3 + 51 ≤ _)⟩)
        dsimp only [Pt.U, Pt.locs, Pt.cells, Pt.slots] at X212 l212 y212 z212 st212 hQ212
        subst l212 y212 z212
        obtain ⟨rfl, N212q, K212, Fp212⟩ := hQ212
        have N212 := Fr.app N0 N212q
        have f213 : Exa Z T212.heap b206 "org/surnia/graph/Chains" := A206.keep K212
        have Z214 : n0 ≤ T212.heap.size := Nat.le_trans Z208 K212.1
        have eh212 : T212.heap = T212.heap := rfl
        refine OGo.on (fun t k => st212.trans k) ?_
        show OGo p e below s _ _ _ (T212.setTop (mkF m 99 #[.val (.int vw), .val (.int va), .val (.int vb), .val (.int vc), .val (.int vs), .val (.int vq), .val (.int vo), .val (.int ((vw &&& (2147483647 : Int32)) % (6 : Int32))), .val (.int (4 : Int32)), .unset, .unset, .unset, .unset, .unset] [(.ref b206)]))
        refine OGo.on (fun t k => XS.astore X212.here hx rfl (hb hby at_99) rfl rfl (l' := #[.val (.int vw), .val (.int va), .val (.int vb), .val (.int vc), .val (.int vs), .val (.int vq), .val (.int vo), .val (.int ((vw &&& (2147483647 : Int32)) % (6 : Int32))), .val (.int (4 : Int32)), .val (.ref b206), .unset, .unset, .unset, .unset]) rfl k) ?_
        show OGo p e below s _ _ _ (T212.setTop (mkF m 101 #[.val (.int vw), .val (.int va), .val (.int vb), .val (.int vc), .val (.int vs), .val (.int vq), .val (.int vo), .val (.int ((vw &&& (2147483647 : Int32)) % (6 : Int32))), .val (.int (4 : Int32)), .val (.ref b206), .unset, .unset, .unset, .unset] []))
        refine OGo.on (fun t k => XS.aload X212.here hx rfl (hb hby at_101) rfl rfl k) ?_
        show OGo p e below s _ _ _ (T212.setTop (mkF m 103 #[.val (.int vw), .val (.int va), .val (.int vb), .val (.int vc), .val (.int vs), .val (.int vq), .val (.int vo), .val (.int ((vw &&& (2147483647 : Int32)) % (6 : Int32))), .val (.int (4 : Int32)), .val (.ref b206), .unset, .unset, .unset, .unset] [(.ref b206)]))
        refine OGo.on (fun t k => XS.iload X212.here hx rfl (hb hby at_103) rfl k) ?_
        show OGo p e below s _ _ _ (T212.setTop (mkF m 105 #[.val (.int vw), .val (.int va), .val (.int vb), .val (.int vc), .val (.int vs), .val (.int vq), .val (.int vo), .val (.int ((vw &&& (2147483647 : Int32)) % (6 : Int32))), .val (.int (4 : Int32)), .val (.ref b206), .unset, .unset, .unset, .unset] [(.int vs), (.ref b206)]))
        refine OGo.on (fun t k => XS.iload X212.here hx rfl (hb hby at_105) rfl k) ?_
        show OGo p e below s _ _ _ (T212.setTop (mkF m 107 #[.val (.int vw), .val (.int va), .val (.int vb), .val (.int vc), .val (.int vs), .val (.int vq), .val (.int vo), .val (.int ((vw &&& (2147483647 : Int32)) % (6 : Int32))), .val (.int (4 : Int32)), .val (.ref b206), .unset, .unset, .unset, .unset] [(.int vq), (.int vs), (.ref b206)]))
        refine OGo.on (fun t k => XS.iload X212.here hx rfl (hb hby at_107) rfl k) ?_
        show OGo p e below s _ _ _ (T212.setTop (mkF m 109 #[.val (.int vw), .val (.int va), .val (.int vb), .val (.int vc), .val (.int vs), .val (.int vq), .val (.int vo), .val (.int ((vw &&& (2147483647 : Int32)) % (6 : Int32))), .val (.int (4 : Int32)), .val (.ref b206), .unset, .unset, .unset, .unset] [(.int vo), (.int vq), (.int vs), (.ref b206)]))
        obtain ⟨cq215, kq215, q215a, q215b, q215c⟩ := isOf hZ eh212 f213
        obtain ⟨_, _, ⟨T215, L215, k215, n215⟩, -, X215, ⟨Lc215, hQ215, l215, y215, z215⟩, st215⟩ := X212.virtualBack hx (y := (⟨"org/surnia/graph/Chains", "key", "(III)J"⟩ : MethodName)) (z := (⟨"org/surnia/graph/Chains", "key", "(III)J"⟩ : MethodName)) hown (mvT hZ (hw _ (List.mem_of_getElem? (i := 37) rfl))) (mvT hZ (hw _ (List.mem_of_getElem? (i := 38) rfl))) (notFace_of_selects (args := #[]) (mvT hZ (hw _ (List.mem_of_getElem? (i := 40) rfl)))) (mvT hZ (hw _ (List.mem_of_getElem? (i := 40) rfl))) (mvT hZ (hw _ (List.mem_of_getElem? (i := 39) rfl))) (by decide) (backOf (W := 0) (own_mkey l Z a0 hw [] b206 vs vq vo (4 : Int32) T212.heap n0 Z214 Fp212) hZ (hw _ (List.mem_of_getElem? (i := 41) rfl)) (hw _ (List.mem_of_getElem? (i := 3) rfl)) (by decide) (by decide)) q215a q215c (g := (mkF m 109 #[.val (.int vw), .val (.int va), .val (.int vb), .val (.int vc), .val (.int vs), .val (.int vq), .val (.int vo), .val (.int ((vw &&& (2147483647 : Int32)) % (6 : Int32))), .val (.int (4 : Int32)), .val (.ref b206), .unset, .unset, .unset, .unset] [(.int vo), (.int vq), (.int vs), (.ref b206)])) rfl (by rw [hml]; rfl) (Steps.refl _) (argsL := [(.int vs), (.int vq), (.int vo)]) (rest := []) (lenOf own_pd4 rfl) rfl (by show 2 * 0 + _ ≤ _; exact Nat.le_of_eq rfl) (hb hby at_109) (fun _ _ => ⟨rfl, eh212, (by decide : 5 + 0 ≤ _), (by decide : 54 + 0 ≤ _)⟩)
        dsimp only [Pt.U, Pt.locs, Pt.cells, Pt.slots] at X215 l215 y215 z215 st215 hQ215
        subst l215 y215 z215
        obtain ⟨rfl, N215q, e215⟩ := hQ215
        have N215 := Fr.app N212 N215q
        refine OGo.on (fun t k => st215.trans k) ?_
        show OGo p e below s _ _ _ (T215.setTop (mkF m 112 #[.val (.int vw), .val (.int va), .val (.int vb), .val (.int vc), .val (.int vs), .val (.int vq), .val (.int vo), .val (.int ((vw &&& (2147483647 : Int32)) % (6 : Int32))), .val (.int (4 : Int32)), .val (.ref b206), .unset, .unset, .unset, .unset] [(.long (own_key (4 : Int32) vs vq vo))]))
        refine OGo.on (fun t k => XS.lstore X215.here hx rfl (hb hby at_112) rfl (l' := #[.val (.int vw), .val (.int va), .val (.int vb), .val (.int vc), .val (.int vs), .val (.int vq), .val (.int vo), .val (.int ((vw &&& (2147483647 : Int32)) % (6 : Int32))), .val (.int (4 : Int32)), .val (.ref b206), .val (.long (own_key (4 : Int32) vs vq vo)), .second, .unset, .unset]) rfl k) ?_
        show OGo p e below s _ _ _ (T215.setTop (mkF m 114 #[.val (.int vw), .val (.int va), .val (.int vb), .val (.int vc), .val (.int vs), .val (.int vq), .val (.int vo), .val (.int ((vw &&& (2147483647 : Int32)) % (6 : Int32))), .val (.int (4 : Int32)), .val (.ref b206), .val (.long (own_key (4 : Int32) vs vq vo)), .second, .unset, .unset] []))
        refine OGo.on (fun t k => XS.iload X215.here hx rfl (hb hby at_114) rfl k) ?_
        show OGo p e below s _ _ _ (T215.setTop (mkF m 116 #[.val (.int vw), .val (.int va), .val (.int vb), .val (.int vc), .val (.int vs), .val (.int vq), .val (.int vo), .val (.int ((vw &&& (2147483647 : Int32)) % (6 : Int32))), .val (.int (4 : Int32)), .val (.ref b206), .val (.long (own_key (4 : Int32) vs vq vo)), .second, .unset, .unset] [(.int (4 : Int32))]))
        refine OGo.on (fun t k => XS.iconst X215.here hx rfl (hb hby at_116) k) ?_
        show OGo p e below s _ _ _ (T215.setTop (mkF m 117 #[.val (.int vw), .val (.int va), .val (.int vb), .val (.int vc), .val (.int vs), .val (.int vq), .val (.int vo), .val (.int ((vw &&& (2147483647 : Int32)) % (6 : Int32))), .val (.int (4 : Int32)), .val (.ref b206), .val (.long (own_key (4 : Int32) vs vq vo)), .second, .unset, .unset] [(.int (1 : Int32)), (.int (4 : Int32))]))
        refine OGo.on (fun t k => XS.icmpYes X215.here hx rfl (pc0 := 117) (pc' := 128) rfl (hb hby at_117) rfl (feq (by decide)).2 (by decide) (by decide) k) ?_
        show OGo p e below s _ _ _ (T215.setTop (mkF m 128 #[.val (.int vw), .val (.int va), .val (.int vb), .val (.int vc), .val (.int vs), .val (.int vq), .val (.int vo), .val (.int ((vw &&& (2147483647 : Int32)) % (6 : Int32))), .val (.int (4 : Int32)), .val (.ref b206), .val (.long (own_key (4 : Int32) vs vq vo)), .second, .unset, .unset] []))
        refine OGo.on (fun t k => XS.iload X215.here hx rfl (hb hby at_128) rfl k) ?_
        show OGo p e below s _ _ _ (T215.setTop (mkF m 130 #[.val (.int vw), .val (.int va), .val (.int vb), .val (.int vc), .val (.int vs), .val (.int vq), .val (.int vo), .val (.int ((vw &&& (2147483647 : Int32)) % (6 : Int32))), .val (.int (4 : Int32)), .val (.ref b206), .val (.long (own_key (4 : Int32) vs vq vo)), .second, .unset, .unset] [(.int (4 : Int32))]))
        refine OGo.on (fun t k => XS.iconst X215.here hx rfl (hb hby at_130) k) ?_
        show OGo p e below s _ _ _ (T215.setTop (mkF m 131 #[.val (.int vw), .val (.int va), .val (.int vb), .val (.int vc), .val (.int vs), .val (.int vq), .val (.int vo), .val (.int ((vw &&& (2147483647 : Int32)) % (6 : Int32))), .val (.int (4 : Int32)), .val (.ref b206), .val (.long (own_key (4 : Int32) vs vq vo)), .second, .unset, .unset] [(.int (2 : Int32)), (.int (4 : Int32))]))
        refine OGo.on (fun t k => XS.icmpYes X215.here hx rfl (pc0 := 131) (pc' := 142) rfl (hb hby at_131) rfl (feq (by decide)).2 (by decide) (by decide) k) ?_
        show OGo p e below s _ _ _ (T215.setTop (mkF m 142 #[.val (.int vw), .val (.int va), .val (.int vb), .val (.int vc), .val (.int vs), .val (.int vq), .val (.int vo), .val (.int ((vw &&& (2147483647 : Int32)) % (6 : Int32))), .val (.int (4 : Int32)), .val (.ref b206), .val (.long (own_key (4 : Int32) vs vq vo)), .second, .unset, .unset] []))
        refine OGo.on (fun t k => XS.iload X215.here hx rfl (hb hby at_142) rfl k) ?_
        show OGo p e below s _ _ _ (T215.setTop (mkF m 144 #[.val (.int vw), .val (.int va), .val (.int vb), .val (.int vc), .val (.int vs), .val (.int vq), .val (.int vo), .val (.int ((vw &&& (2147483647 : Int32)) % (6 : Int32))), .val (.int (4 : Int32)), .val (.ref b206), .val (.long (own_key (4 : Int32) vs vq vo)), .second, .unset, .unset] [(.int (4 : Int32))]))
        refine OGo.on (fun t k => XS.iconst X215.here hx rfl (hb hby at_144) k) ?_
        show OGo p e below s _ _ _ (T215.setTop (mkF m 145 #[.val (.int vw), .val (.int va), .val (.int vb), .val (.int vc), .val (.int vs), .val (.int vq), .val (.int vo), .val (.int ((vw &&& (2147483647 : Int32)) % (6 : Int32))), .val (.int (4 : Int32)), .val (.ref b206), .val (.long (own_key (4 : Int32) vs vq vo)), .second, .unset, .unset] [(.int (4 : Int32)), (.int (4 : Int32))]))
        refine OGo.on (fun t k => XS.icmpNo X215.here hx rfl (hb hby at_145) rfl (teq (by decide)).2 k) ?_
        show OGo p e below s _ _ _ (T215.setTop (mkF m 148 #[.val (.int vw), .val (.int va), .val (.int vb), .val (.int vc), .val (.int vs), .val (.int vq), .val (.int vo), .val (.int ((vw &&& (2147483647 : Int32)) % (6 : Int32))), .val (.int (4 : Int32)), .val (.ref b206), .val (.long (own_key (4 : Int32) vs vq vo)), .second, .unset, .unset] []))
        refine OGo.on (fun t k => XS.iload X215.here hx rfl (hb hby at_148) rfl k) ?_
        show OGo p e below s _ _ _ (T215.setTop (mkF m 150 #[.val (.int vw), .val (.int va), .val (.int vb), .val (.int vc), .val (.int vs), .val (.int vq), .val (.int vo), .val (.int ((vw &&& (2147483647 : Int32)) % (6 : Int32))), .val (.int (4 : Int32)), .val (.ref b206), .val (.long (own_key (4 : Int32) vs vq vo)), .second, .unset, .unset] [(.int vo)]))
        refine OGo.on (fun t k => XS.i2l X215.here hx rfl (hb hby at_150) rfl k) ?_
        show OGo p e below s _ _ _ (T215.setTop (mkF m 151 #[.val (.int vw), .val (.int va), .val (.int vb), .val (.int vc), .val (.int vs), .val (.int vq), .val (.int vo), .val (.int ((vw &&& (2147483647 : Int32)) % (6 : Int32))), .val (.int (4 : Int32)), .val (.ref b206), .val (.long (own_key (4 : Int32) vs vq vo)), .second, .unset, .unset] [(.long (vo.toInt64))]))
        refine OGo.on (fun t k => XS.lstore X215.here hx rfl (hb hby at_151) rfl (l' := #[.val (.int vw), .val (.int va), .val (.int vb), .val (.int vc), .val (.int vs), .val (.int vq), .val (.int vo), .val (.int ((vw &&& (2147483647 : Int32)) % (6 : Int32))), .val (.int (4 : Int32)), .val (.ref b206), .val (.long (own_key (4 : Int32) vs vq vo)), .second, .val (.long (vo.toInt64)), .second]) rfl k) ?_
        show OGo p e below s _ _ _ (T215.setTop (mkF m 153 #[.val (.int vw), .val (.int va), .val (.int vb), .val (.int vc), .val (.int vs), .val (.int vq), .val (.int vo), .val (.int ((vw &&& (2147483647 : Int32)) % (6 : Int32))), .val (.int (4 : Int32)), .val (.ref b206), .val (.long (own_key (4 : Int32) vs vq vo)), .second, .val (.long (vo.toInt64)), .second] []))
        refine OGo.on (fun t k => XS.goto X215.here hx rfl (pc0 := 153) (pc' := 213) rfl (hb hby at_153) (by decide) (by decide) k) ?_
        show OGo p e below s _ _ _ (T215.setTop (mkF m 213 #[.val (.int vw), .val (.int va), .val (.int vb), .val (.int vc), .val (.int vs), .val (.int vq), .val (.int vo), .val (.int ((vw &&& (2147483647 : Int32)) % (6 : Int32))), .val (.int (4 : Int32)), .val (.ref b206), .val (.long (own_key (4 : Int32) vs vq vo)), .second, .val (.long (vo.toInt64)), .second] []))
        refine OGo.on (fun t k => XS.lload X215.here hx rfl (hb hby at_213) rfl k) ?_
        show OGo p e below s _ _ _ (T215.setTop (mkF m 215 #[.val (.int vw), .val (.int va), .val (.int vb), .val (.int vc), .val (.int vs), .val (.int vq), .val (.int vo), .val (.int ((vw &&& (2147483647 : Int32)) % (6 : Int32))), .val (.int (4 : Int32)), .val (.ref b206), .val (.long (own_key (4 : Int32) vs vq vo)), .second, .val (.long (vo.toInt64)), .second] [(.long (own_key (4 : Int32) vs vq vo))]))
        refine OGo.on (fun t k => XS.lload X215.here hx rfl (hb hby at_215) rfl k) ?_
        show OGo p e below s _ _ _ (T215.setTop (mkF m 217 #[.val (.int vw), .val (.int va), .val (.int vb), .val (.int vc), .val (.int vs), .val (.int vq), .val (.int vo), .val (.int ((vw &&& (2147483647 : Int32)) % (6 : Int32))), .val (.int (4 : Int32)), .val (.ref b206), .val (.long (own_key (4 : Int32) vs vq vo)), .second, .val (.long (vo.toInt64)), .second] [(.long (vo.toInt64)), (.long (own_key (4 : Int32) vs vq vo))]))
        refine OGo.on (fun t k => XS.lcmp X215.here hx rfl (hb hby at_217) rfl k) ?_
        show OGo p e below s _ _ _ (T215.setTop (mkF m 218 #[.val (.int vw), .val (.int va), .val (.int vb), .val (.int vc), .val (.int vs), .val (.int vq), .val (.int vo), .val (.int ((vw &&& (2147483647 : Int32)) % (6 : Int32))), .val (.int (4 : Int32)), .val (.ref b206), .val (.long (own_key (4 : Int32) vs vq vo)), .second, .val (.long (vo.toInt64)), .second] [(.int (lcmpW (own_key (4 : Int32) vs vq vo) (vo.toInt64)))]))
        refine OGo.on (fun t k => XS.ifNo X215.here hx rfl (hb hby at_218) rfl (lc_teq (own_p4 vs vq vo)).2 k) ?_
        show OGo p e below s _ _ _ (T215.setTop (mkF m 221 #[.val (.int vw), .val (.int va), .val (.int vb), .val (.int vc), .val (.int vs), .val (.int vq), .val (.int vo), .val (.int ((vw &&& (2147483647 : Int32)) % (6 : Int32))), .val (.int (4 : Int32)), .val (.ref b206), .val (.long (own_key (4 : Int32) vs vq vo)), .second, .val (.long (vo.toInt64)), .second] []))
        refine OGo.on (fun t k => XS.aload X215.here hx rfl (hb hby at_221) rfl rfl k) ?_
        show OGo p e below s _ _ _ (T215.setTop (mkF m 223 #[.val (.int vw), .val (.int va), .val (.int vb), .val (.int vc), .val (.int vs), .val (.int vq), .val (.int vo), .val (.int ((vw &&& (2147483647 : Int32)) % (6 : Int32))), .val (.int (4 : Int32)), .val (.ref b206), .val (.long (own_key (4 : Int32) vs vq vo)), .second, .val (.long (vo.toInt64)), .second] [(.ref b206)]))
        obtain ⟨cq216, kq216, q216a, q216b, q216c⟩ := isOf hZ e215 f213
        obtain ⟨_, _, ⟨T216, L216, k216, n216⟩, -, X216, ⟨Lc216, hQ216, l216, y216, z216⟩, st216⟩ := X215.virtualBack hx (y := (⟨"org/surnia/graph/Chains", "places", "()I"⟩ : MethodName)) (z := (⟨"org/surnia/graph/Chains", "places", "()I"⟩ : MethodName)) hown (mvT hZ (hw _ (List.mem_of_getElem? (i := 42) rfl))) (mvT hZ (hw _ (List.mem_of_getElem? (i := 43) rfl))) (notFace_of_selects (args := #[]) (mvT hZ (hw _ (List.mem_of_getElem? (i := 45) rfl)))) (mvT hZ (hw _ (List.mem_of_getElem? (i := 45) rfl))) (mvT hZ (hw _ (List.mem_of_getElem? (i := 44) rfl))) (by decide) (backOf (W := 0) (own_mplaces l Z a0 hw [] b206 (4 : Int32) T212.heap n0 Z214 Fp212) hZ (hw _ (List.mem_of_getElem? (i := 46) rfl)) (hw _ (List.mem_of_getElem? (i := 3) rfl)) (by decide) (by decide)) q216a q216c (g := (mkF m 223 #[.val (.int vw), .val (.int va), .val (.int vb), .val (.int vc), .val (.int vs), .val (.int vq), .val (.int vo), .val (.int ((vw &&& (2147483647 : Int32)) % (6 : Int32))), .val (.int (4 : Int32)), .val (.ref b206), .val (.long (own_key (4 : Int32) vs vq vo)), .second, .val (.long (vo.toInt64)), .second] [(.ref b206)])) rfl (by rw [hml]; rfl) (Steps.refl _) (argsL := []) (rest := []) (lenOf own_pd5 rfl) rfl (by show 2 * 0 + _ ≤ _; exact Nat.le_of_eq rfl) (hb hby at_223) (fun _ _ => ⟨rfl, e215, (by decide : 5 + 0 ≤ _), (by decide : 54 + 0 ≤ _)⟩)
        dsimp only [Pt.U, Pt.locs, Pt.cells, Pt.slots] at X216 l216 y216 z216 st216 hQ216
        subst l216 y216 z216
        obtain ⟨rfl, N216q, e216⟩ := hQ216
        have N216 := Fr.app N215 N216q
        refine OGo.on (fun t k => st216.trans k) ?_
        show OGo p e below s _ _ _ (T216.setTop (mkF m 226 #[.val (.int vw), .val (.int va), .val (.int vb), .val (.int vc), .val (.int vs), .val (.int vq), .val (.int vo), .val (.int ((vw &&& (2147483647 : Int32)) % (6 : Int32))), .val (.int (4 : Int32)), .val (.ref b206), .val (.long (own_key (4 : Int32) vs vq vo)), .second, .val (.long (vo.toInt64)), .second] [(.int (4 : Int32))]))
        refine OGo.on (fun t k => XS.iload X216.here hx rfl (hb hby at_226) rfl k) ?_
        show OGo p e below s _ _ _ (T216.setTop (mkF m 228 #[.val (.int vw), .val (.int va), .val (.int vb), .val (.int vc), .val (.int vs), .val (.int vq), .val (.int vo), .val (.int ((vw &&& (2147483647 : Int32)) % (6 : Int32))), .val (.int (4 : Int32)), .val (.ref b206), .val (.long (own_key (4 : Int32) vs vq vo)), .second, .val (.long (vo.toInt64)), .second] [(.int (4 : Int32)), (.int (4 : Int32))]))
        refine OGo.on (fun t k => XS.icmpNo X216.here hx rfl (hb hby at_228) rfl (teq (by decide)).2 k) ?_
        show OGo p e below s _ _ _ (T216.setTop (mkF m 231 #[.val (.int vw), .val (.int va), .val (.int vb), .val (.int vc), .val (.int vs), .val (.int vq), .val (.int vo), .val (.int ((vw &&& (2147483647 : Int32)) % (6 : Int32))), .val (.int (4 : Int32)), .val (.ref b206), .val (.long (own_key (4 : Int32) vs vq vo)), .second, .val (.long (vo.toInt64)), .second] []))
        refine OGo.on (fun t k => XS.iconst X216.here hx rfl (hb hby at_231) k) ?_
        show OGo p e below s _ _ _ (T216.setTop (mkF m 232 #[.val (.int vw), .val (.int va), .val (.int vb), .val (.int vc), .val (.int vs), .val (.int vq), .val (.int vo), .val (.int ((vw &&& (2147483647 : Int32)) % (6 : Int32))), .val (.int (4 : Int32)), .val (.ref b206), .val (.long (own_key (4 : Int32) vs vq vo)), .second, .val (.long (vo.toInt64)), .second] [(.int (1 : Int32))]))
        refine OGo.on (fun t k => XS.goto X216.here hx rfl (pc0 := 232) (pc' := 236) rfl (hb hby at_232) (by decide) (by decide) k) ?_
        show OGo p e below s _ _ _ (T216.setTop (mkF m 236 #[.val (.int vw), .val (.int va), .val (.int vb), .val (.int vc), .val (.int vs), .val (.int vq), .val (.int vo), .val (.int ((vw &&& (2147483647 : Int32)) % (6 : Int32))), .val (.int (4 : Int32)), .val (.ref b206), .val (.long (own_key (4 : Int32) vs vq vo)), .second, .val (.long (vo.toInt64)), .second] [(.int (1 : Int32))]))
        exact OGo.retN X216 hx (t := .boolean) hret hlk (by simp) (hb hby at_236) ⟨rfl, N216⟩ (by decide) (by decide)
      · refine OGo.on (fun t k => XS.icmpYes X0.here hx rfl (pc0 := 53) (pc' := 62) rfl (hb hby at_53) rfl (feq hc205).2 (by decide) (by decide) k) ?_
        show OGo p e below s _ _ _ (s₁.setTop (mkF m 62 #[.val (.int vw), .val (.int va), .val (.int vb), .val (.int vc), .val (.int vs), .val (.int vq), .val (.int vo), .val (.int ((vw &&& (2147483647 : Int32)) % (6 : Int32))), .unset, .unset, .unset, .unset, .unset, .unset] []))
        refine OGo.on (fun t k => XS.iload X0.here hx rfl (hb hby at_62) rfl k) ?_
        show OGo p e below s _ _ _ (s₁.setTop (mkF m 64 #[.val (.int vw), .val (.int va), .val (.int vb), .val (.int vc), .val (.int vs), .val (.int vq), .val (.int vo), .val (.int ((vw &&& (2147483647 : Int32)) % (6 : Int32))), .unset, .unset, .unset, .unset, .unset, .unset] [(.int ((vw &&& (2147483647 : Int32)) % (6 : Int32)))]))
        refine OGo.on (fun t k => XS.iconst X0.here hx rfl (hb hby at_64) k) ?_
        show OGo p e below s _ _ _ (s₁.setTop (mkF m 65 #[.val (.int vw), .val (.int va), .val (.int vb), .val (.int vc), .val (.int vs), .val (.int vq), .val (.int vo), .val (.int ((vw &&& (2147483647 : Int32)) % (6 : Int32))), .unset, .unset, .unset, .unset, .unset, .unset] [(.int (3 : Int32)), (.int ((vw &&& (2147483647 : Int32)) % (6 : Int32)))]))
        by_cases hc217 : ((vw &&& (2147483647 : Int32)) % (6 : Int32)) = (3 : Int32)
        · refine OGo.on (fun t k => XS.icmpNo X0.here hx rfl (hb hby at_65) rfl (teq hc217).2 k) ?_
          show OGo p e below s _ _ _ (s₁.setTop (mkF m 68 #[.val (.int vw), .val (.int va), .val (.int vb), .val (.int vc), .val (.int vs), .val (.int vq), .val (.int vo), .val (.int ((vw &&& (2147483647 : Int32)) % (6 : Int32))), .unset, .unset, .unset, .unset, .unset, .unset] []))
          refine OGo.on (fun t k => XS.iconst X0.here hx rfl (hb hby at_68) k) ?_
          show OGo p e below s _ _ _ (s₁.setTop (mkF m 69 #[.val (.int vw), .val (.int va), .val (.int vb), .val (.int vc), .val (.int vs), .val (.int vq), .val (.int vo), .val (.int ((vw &&& (2147483647 : Int32)) % (6 : Int32))), .unset, .unset, .unset, .unset, .unset, .unset] [(.int (3 : Int32))]))
          refine OGo.on (fun t k => XS.istore X0.here hx rfl (hb hby at_69) rfl (l' := #[.val (.int vw), .val (.int va), .val (.int vb), .val (.int vc), .val (.int vs), .val (.int vq), .val (.int vo), .val (.int ((vw &&& (2147483647 : Int32)) % (6 : Int32))), .val (.int (3 : Int32)), .unset, .unset, .unset, .unset, .unset]) rfl k) ?_
          show OGo p e below s _ _ _ (s₁.setTop (mkF m 71 #[.val (.int vw), .val (.int va), .val (.int vb), .val (.int vc), .val (.int vs), .val (.int vq), .val (.int vo), .val (.int ((vw &&& (2147483647 : Int32)) % (6 : Int32))), .val (.int (3 : Int32)), .unset, .unset, .unset, .unset, .unset] []))
          refine OGo.on (fun t k => XS.goto X0.here hx rfl (pc0 := 71) (pc' := 90) rfl (hb hby at_71) (by decide) (by decide) k) ?_
          show OGo p e below s _ _ _ (s₁.setTop (mkF m 90 #[.val (.int vw), .val (.int va), .val (.int vb), .val (.int vc), .val (.int vs), .val (.int vq), .val (.int vo), .val (.int ((vw &&& (2147483647 : Int32)) % (6 : Int32))), .val (.int (3 : Int32)), .unset, .unset, .unset, .unset, .unset] []))
          obtain ⟨T218, h218, X218, e218, E218, A218, D218, -, st218⟩ := newO X0 hx hZ hown (hw _ (List.mem_of_getElem? (i := 1) rfl)) (hw _ (List.mem_of_getElem? (i := 2) rfl)) (hw _ (List.mem_of_getElem? (i := 3) rfl)) e0 (g := (mkF m 90 #[.val (.int vw), .val (.int va), .val (.int vb), .val (.int vc), .val (.int vs), .val (.int vq), .val (.int vo), .val (.int ((vw &&& (2147483647 : Int32)) % (6 : Int32))), .val (.int (3 : Int32)), .unset, .unset, .unset, .unset, .unset] [])) rfl (hb hby at_90) (by decide) (by decide)
          obtain ⟨b218, g218⟩ : ∃ z, z = h0.size := ⟨_, rfl⟩
          rw [← g218] at A218 D218 st218
          have ge219 : n0 ≤ b218 := Nat.le_trans Z0 (Nat.le_of_eq g218.symm)
          have Z220 : n0 ≤ h218.size := Nat.le_trans Z0 E218.1
          have f221 : Fld Z h218 b218 "org/surnia/graph/Chains" "newest" "Lorg/surnia/graph/LongIntMap;" .null := D218 (Or.inr (hw _ (List.mem_of_getElem? (i := 32) rfl))) (ty := (.object "org/surnia/graph/LongIntMap")) (by decide)
          have f222 : Fld Z h218 b218 "org/surnia/graph/Chains" "older" "[I" .null := D218 (Or.inl (hw _ (List.mem_of_getElem? (i := 34) rfl))) (ty := (.array .int)) (by decide)
          have f223 : Fld Z h218 b218 "org/surnia/graph/Chains" "places" "I" (.int (0 : Int32)) := D218 (Or.inr (hw _ (List.mem_of_getElem? (i := 36) rfl))) (ty := .int) (by decide)
          refine OGo.on st218 ?_
          show OGo p e below s _ _ _ (T218.setTop (mkF m 93 #[.val (.int vw), .val (.int va), .val (.int vb), .val (.int vc), .val (.int vs), .val (.int vq), .val (.int vo), .val (.int ((vw &&& (2147483647 : Int32)) % (6 : Int32))), .val (.int (3 : Int32)), .unset, .unset, .unset, .unset, .unset] [(.ref b218)]))
          refine OGo.on (fun t k => XS.dup X218.here hx rfl (hb hby at_93) rfl rfl k) ?_
          show OGo p e below s _ _ _ (T218.setTop (mkF m 94 #[.val (.int vw), .val (.int va), .val (.int vb), .val (.int vc), .val (.int vs), .val (.int vq), .val (.int vo), .val (.int ((vw &&& (2147483647 : Int32)) % (6 : Int32))), .val (.int (3 : Int32)), .unset, .unset, .unset, .unset, .unset] [(.ref b218), (.ref b218)]))
          refine OGo.on (fun t k => XS.iload X218.here hx rfl (hb hby at_94) rfl k) ?_
          show OGo p e below s _ _ _ (T218.setTop (mkF m 96 #[.val (.int vw), .val (.int va), .val (.int vb), .val (.int vc), .val (.int vs), .val (.int vq), .val (.int vo), .val (.int ((vw &&& (2147483647 : Int32)) % (6 : Int32))), .val (.int (3 : Int32)), .unset, .unset, .unset, .unset, .unset] [(.int (3 : Int32)), (.ref b218), (.ref b218)]))
          obtain ⟨_, _, ⟨T224, L224, k224, n224⟩, -, X224, ⟨Lc224, hQ224, l224, y224, z224⟩, st224⟩ := X218.specialBack hx (y := (⟨"org/surnia/graph/Chains", "<init>", "(I)V"⟩ : MethodName)) rfl hown (mvT hZ (hw _ (List.mem_of_getElem? (i := 4) rfl))) (mvT hZ (hw _ (List.mem_of_getElem? (i := 5) rfl))) (mvT hZ (hw _ (List.mem_of_getElem? (i := 6) rfl))) (by decide) (backOf (W := 1) (own_chinit l Z a0 hw [] b218 (3 : Int32) h218 n0 Z220 ge219 A218 f221 f222 f223) hZ (hw _ (List.mem_of_getElem? (i := 6) rfl)) (hw _ (List.mem_of_getElem? (i := 3) rfl)) (by decide) (by decide)) (g := (mkF m 96 #[.val (.int vw), .val (.int va), .val (.int vb), .val (.int vc), .val (.int vs), .val (.int vq), .val (.int vo), .val (.int ((vw &&& (2147483647 : Int32)) % (6 : Int32))), .val (.int (3 : Int32)), .unset, .unset, .unset, .unset, .unset] [(.int (3 : Int32)), (.ref b218), (.ref b218)])) rfl (by rw [hml]; rfl) (Steps.refl _) (a := b218) (argsL := [(.int (3 : Int32))]) (rest := [(.ref b218)]) (lenOf own_pd3 rfl) rfl (by show 2 * 0 + _ ≤ _; exact Nat.le_of_eq rfl) (hb hby at_96) (fun _ _ => ⟨rfl, e218, (by decide : 1 + 4 ≤ _), (by decide : 3 + 51 ≤ _)⟩)
          dsimp only [Pt.U, Pt.locs, Pt.cells, Pt.slots] at X224 l224 y224 z224 st224 hQ224
          subst l224 y224 z224
          obtain ⟨rfl, N224q, K224, Fp224⟩ := hQ224
          have N224 := Fr.app N0 N224q
          have f225 : Exa Z T224.heap b218 "org/surnia/graph/Chains" := A218.keep K224
          have Z226 : n0 ≤ T224.heap.size := Nat.le_trans Z220 K224.1
          have eh224 : T224.heap = T224.heap := rfl
          refine OGo.on (fun t k => st224.trans k) ?_
          show OGo p e below s _ _ _ (T224.setTop (mkF m 99 #[.val (.int vw), .val (.int va), .val (.int vb), .val (.int vc), .val (.int vs), .val (.int vq), .val (.int vo), .val (.int ((vw &&& (2147483647 : Int32)) % (6 : Int32))), .val (.int (3 : Int32)), .unset, .unset, .unset, .unset, .unset] [(.ref b218)]))
          refine OGo.on (fun t k => XS.astore X224.here hx rfl (hb hby at_99) rfl rfl (l' := #[.val (.int vw), .val (.int va), .val (.int vb), .val (.int vc), .val (.int vs), .val (.int vq), .val (.int vo), .val (.int ((vw &&& (2147483647 : Int32)) % (6 : Int32))), .val (.int (3 : Int32)), .val (.ref b218), .unset, .unset, .unset, .unset]) rfl k) ?_
          show OGo p e below s _ _ _ (T224.setTop (mkF m 101 #[.val (.int vw), .val (.int va), .val (.int vb), .val (.int vc), .val (.int vs), .val (.int vq), .val (.int vo), .val (.int ((vw &&& (2147483647 : Int32)) % (6 : Int32))), .val (.int (3 : Int32)), .val (.ref b218), .unset, .unset, .unset, .unset] []))
          refine OGo.on (fun t k => XS.aload X224.here hx rfl (hb hby at_101) rfl rfl k) ?_
          show OGo p e below s _ _ _ (T224.setTop (mkF m 103 #[.val (.int vw), .val (.int va), .val (.int vb), .val (.int vc), .val (.int vs), .val (.int vq), .val (.int vo), .val (.int ((vw &&& (2147483647 : Int32)) % (6 : Int32))), .val (.int (3 : Int32)), .val (.ref b218), .unset, .unset, .unset, .unset] [(.ref b218)]))
          refine OGo.on (fun t k => XS.iload X224.here hx rfl (hb hby at_103) rfl k) ?_
          show OGo p e below s _ _ _ (T224.setTop (mkF m 105 #[.val (.int vw), .val (.int va), .val (.int vb), .val (.int vc), .val (.int vs), .val (.int vq), .val (.int vo), .val (.int ((vw &&& (2147483647 : Int32)) % (6 : Int32))), .val (.int (3 : Int32)), .val (.ref b218), .unset, .unset, .unset, .unset] [(.int vs), (.ref b218)]))
          refine OGo.on (fun t k => XS.iload X224.here hx rfl (hb hby at_105) rfl k) ?_
          show OGo p e below s _ _ _ (T224.setTop (mkF m 107 #[.val (.int vw), .val (.int va), .val (.int vb), .val (.int vc), .val (.int vs), .val (.int vq), .val (.int vo), .val (.int ((vw &&& (2147483647 : Int32)) % (6 : Int32))), .val (.int (3 : Int32)), .val (.ref b218), .unset, .unset, .unset, .unset] [(.int vq), (.int vs), (.ref b218)]))
          refine OGo.on (fun t k => XS.iload X224.here hx rfl (hb hby at_107) rfl k) ?_
          show OGo p e below s _ _ _ (T224.setTop (mkF m 109 #[.val (.int vw), .val (.int va), .val (.int vb), .val (.int vc), .val (.int vs), .val (.int vq), .val (.int vo), .val (.int ((vw &&& (2147483647 : Int32)) % (6 : Int32))), .val (.int (3 : Int32)), .val (.ref b218), .unset, .unset, .unset, .unset] [(.int vo), (.int vq), (.int vs), (.ref b218)]))
          obtain ⟨cq227, kq227, q227a, q227b, q227c⟩ := isOf hZ eh224 f225
          obtain ⟨_, _, ⟨T227, L227, k227, n227⟩, -, X227, ⟨Lc227, hQ227, l227, y227, z227⟩, st227⟩ := X224.virtualBack hx (y := (⟨"org/surnia/graph/Chains", "key", "(III)J"⟩ : MethodName)) (z := (⟨"org/surnia/graph/Chains", "key", "(III)J"⟩ : MethodName)) hown (mvT hZ (hw _ (List.mem_of_getElem? (i := 37) rfl))) (mvT hZ (hw _ (List.mem_of_getElem? (i := 38) rfl))) (notFace_of_selects (args := #[]) (mvT hZ (hw _ (List.mem_of_getElem? (i := 40) rfl)))) (mvT hZ (hw _ (List.mem_of_getElem? (i := 40) rfl))) (mvT hZ (hw _ (List.mem_of_getElem? (i := 39) rfl))) (by decide) (backOf (W := 0) (own_mkey l Z a0 hw [] b218 vs vq vo (3 : Int32) T224.heap n0 Z226 Fp224) hZ (hw _ (List.mem_of_getElem? (i := 41) rfl)) (hw _ (List.mem_of_getElem? (i := 3) rfl)) (by decide) (by decide)) q227a q227c (g := (mkF m 109 #[.val (.int vw), .val (.int va), .val (.int vb), .val (.int vc), .val (.int vs), .val (.int vq), .val (.int vo), .val (.int ((vw &&& (2147483647 : Int32)) % (6 : Int32))), .val (.int (3 : Int32)), .val (.ref b218), .unset, .unset, .unset, .unset] [(.int vo), (.int vq), (.int vs), (.ref b218)])) rfl (by rw [hml]; rfl) (Steps.refl _) (argsL := [(.int vs), (.int vq), (.int vo)]) (rest := []) (lenOf own_pd4 rfl) rfl (by show 2 * 0 + _ ≤ _; exact Nat.le_of_eq rfl) (hb hby at_109) (fun _ _ => ⟨rfl, eh224, (by decide : 5 + 0 ≤ _), (by decide : 54 + 0 ≤ _)⟩)
          dsimp only [Pt.U, Pt.locs, Pt.cells, Pt.slots] at X227 l227 y227 z227 st227 hQ227
          subst l227 y227 z227
          obtain ⟨rfl, N227q, e227⟩ := hQ227
          have N227 := Fr.app N224 N227q
          refine OGo.on (fun t k => st227.trans k) ?_
          show OGo p e below s _ _ _ (T227.setTop (mkF m 112 #[.val (.int vw), .val (.int va), .val (.int vb), .val (.int vc), .val (.int vs), .val (.int vq), .val (.int vo), .val (.int ((vw &&& (2147483647 : Int32)) % (6 : Int32))), .val (.int (3 : Int32)), .val (.ref b218), .unset, .unset, .unset, .unset] [(.long (own_key (3 : Int32) vs vq vo))]))
          refine OGo.on (fun t k => XS.lstore X227.here hx rfl (hb hby at_112) rfl (l' := #[.val (.int vw), .val (.int va), .val (.int vb), .val (.int vc), .val (.int vs), .val (.int vq), .val (.int vo), .val (.int ((vw &&& (2147483647 : Int32)) % (6 : Int32))), .val (.int (3 : Int32)), .val (.ref b218), .val (.long (own_key (3 : Int32) vs vq vo)), .second, .unset, .unset]) rfl k) ?_
          show OGo p e below s _ _ _ (T227.setTop (mkF m 114 #[.val (.int vw), .val (.int va), .val (.int vb), .val (.int vc), .val (.int vs), .val (.int vq), .val (.int vo), .val (.int ((vw &&& (2147483647 : Int32)) % (6 : Int32))), .val (.int (3 : Int32)), .val (.ref b218), .val (.long (own_key (3 : Int32) vs vq vo)), .second, .unset, .unset] []))
          refine OGo.on (fun t k => XS.iload X227.here hx rfl (hb hby at_114) rfl k) ?_
          show OGo p e below s _ _ _ (T227.setTop (mkF m 116 #[.val (.int vw), .val (.int va), .val (.int vb), .val (.int vc), .val (.int vs), .val (.int vq), .val (.int vo), .val (.int ((vw &&& (2147483647 : Int32)) % (6 : Int32))), .val (.int (3 : Int32)), .val (.ref b218), .val (.long (own_key (3 : Int32) vs vq vo)), .second, .unset, .unset] [(.int (3 : Int32))]))
          refine OGo.on (fun t k => XS.iconst X227.here hx rfl (hb hby at_116) k) ?_
          show OGo p e below s _ _ _ (T227.setTop (mkF m 117 #[.val (.int vw), .val (.int va), .val (.int vb), .val (.int vc), .val (.int vs), .val (.int vq), .val (.int vo), .val (.int ((vw &&& (2147483647 : Int32)) % (6 : Int32))), .val (.int (3 : Int32)), .val (.ref b218), .val (.long (own_key (3 : Int32) vs vq vo)), .second, .unset, .unset] [(.int (1 : Int32)), (.int (3 : Int32))]))
          refine OGo.on (fun t k => XS.icmpYes X227.here hx rfl (pc0 := 117) (pc' := 128) rfl (hb hby at_117) rfl (feq (by decide)).2 (by decide) (by decide) k) ?_
          show OGo p e below s _ _ _ (T227.setTop (mkF m 128 #[.val (.int vw), .val (.int va), .val (.int vb), .val (.int vc), .val (.int vs), .val (.int vq), .val (.int vo), .val (.int ((vw &&& (2147483647 : Int32)) % (6 : Int32))), .val (.int (3 : Int32)), .val (.ref b218), .val (.long (own_key (3 : Int32) vs vq vo)), .second, .unset, .unset] []))
          refine OGo.on (fun t k => XS.iload X227.here hx rfl (hb hby at_128) rfl k) ?_
          show OGo p e below s _ _ _ (T227.setTop (mkF m 130 #[.val (.int vw), .val (.int va), .val (.int vb), .val (.int vc), .val (.int vs), .val (.int vq), .val (.int vo), .val (.int ((vw &&& (2147483647 : Int32)) % (6 : Int32))), .val (.int (3 : Int32)), .val (.ref b218), .val (.long (own_key (3 : Int32) vs vq vo)), .second, .unset, .unset] [(.int (3 : Int32))]))
          refine OGo.on (fun t k => XS.iconst X227.here hx rfl (hb hby at_130) k) ?_
          show OGo p e below s _ _ _ (T227.setTop (mkF m 131 #[.val (.int vw), .val (.int va), .val (.int vb), .val (.int vc), .val (.int vs), .val (.int vq), .val (.int vo), .val (.int ((vw &&& (2147483647 : Int32)) % (6 : Int32))), .val (.int (3 : Int32)), .val (.ref b218), .val (.long (own_key (3 : Int32) vs vq vo)), .second, .unset, .unset] [(.int (2 : Int32)), (.int (3 : Int32))]))
          refine OGo.on (fun t k => XS.icmpYes X227.here hx rfl (pc0 := 131) (pc' := 142) rfl (hb hby at_131) rfl (feq (by decide)).2 (by decide) (by decide) k) ?_
          show OGo p e below s _ _ _ (T227.setTop (mkF m 142 #[.val (.int vw), .val (.int va), .val (.int vb), .val (.int vc), .val (.int vs), .val (.int vq), .val (.int vo), .val (.int ((vw &&& (2147483647 : Int32)) % (6 : Int32))), .val (.int (3 : Int32)), .val (.ref b218), .val (.long (own_key (3 : Int32) vs vq vo)), .second, .unset, .unset] []))
          refine OGo.on (fun t k => XS.iload X227.here hx rfl (hb hby at_142) rfl k) ?_
          show OGo p e below s _ _ _ (T227.setTop (mkF m 144 #[.val (.int vw), .val (.int va), .val (.int vb), .val (.int vc), .val (.int vs), .val (.int vq), .val (.int vo), .val (.int ((vw &&& (2147483647 : Int32)) % (6 : Int32))), .val (.int (3 : Int32)), .val (.ref b218), .val (.long (own_key (3 : Int32) vs vq vo)), .second, .unset, .unset] [(.int (3 : Int32))]))
          refine OGo.on (fun t k => XS.iconst X227.here hx rfl (hb hby at_144) k) ?_
          show OGo p e below s _ _ _ (T227.setTop (mkF m 145 #[.val (.int vw), .val (.int va), .val (.int vb), .val (.int vc), .val (.int vs), .val (.int vq), .val (.int vo), .val (.int ((vw &&& (2147483647 : Int32)) % (6 : Int32))), .val (.int (3 : Int32)), .val (.ref b218), .val (.long (own_key (3 : Int32) vs vq vo)), .second, .unset, .unset] [(.int (4 : Int32)), (.int (3 : Int32))]))
          refine OGo.on (fun t k => XS.icmpYes X227.here hx rfl (pc0 := 145) (pc' := 156) rfl (hb hby at_145) rfl (feq (by decide)).2 (by decide) (by decide) k) ?_
          show OGo p e below s _ _ _ (T227.setTop (mkF m 156 #[.val (.int vw), .val (.int va), .val (.int vb), .val (.int vc), .val (.int vs), .val (.int vq), .val (.int vo), .val (.int ((vw &&& (2147483647 : Int32)) % (6 : Int32))), .val (.int (3 : Int32)), .val (.ref b218), .val (.long (own_key (3 : Int32) vs vq vo)), .second, .unset, .unset] []))
          refine OGo.on (fun t k => XS.iload X227.here hx rfl (hb hby at_156) rfl k) ?_
          show OGo p e below s _ _ _ (T227.setTop (mkF m 158 #[.val (.int vw), .val (.int va), .val (.int vb), .val (.int vc), .val (.int vs), .val (.int vq), .val (.int vo), .val (.int ((vw &&& (2147483647 : Int32)) % (6 : Int32))), .val (.int (3 : Int32)), .val (.ref b218), .val (.long (own_key (3 : Int32) vs vq vo)), .second, .unset, .unset] [(.int (3 : Int32))]))
          refine OGo.on (fun t k => XS.iconst X227.here hx rfl (hb hby at_158) k) ?_
          show OGo p e below s _ _ _ (T227.setTop (mkF m 159 #[.val (.int vw), .val (.int va), .val (.int vb), .val (.int vc), .val (.int vs), .val (.int vq), .val (.int vo), .val (.int ((vw &&& (2147483647 : Int32)) % (6 : Int32))), .val (.int (3 : Int32)), .val (.ref b218), .val (.long (own_key (3 : Int32) vs vq vo)), .second, .unset, .unset] [(.int (3 : Int32)), (.int (3 : Int32))]))
          refine OGo.on (fun t k => XS.icmpNo X227.here hx rfl (hb hby at_159) rfl (teq (by decide)).2 k) ?_
          show OGo p e below s _ _ _ (T227.setTop (mkF m 162 #[.val (.int vw), .val (.int va), .val (.int vb), .val (.int vc), .val (.int vs), .val (.int vq), .val (.int vo), .val (.int ((vw &&& (2147483647 : Int32)) % (6 : Int32))), .val (.int (3 : Int32)), .val (.ref b218), .val (.long (own_key (3 : Int32) vs vq vo)), .second, .unset, .unset] []))
          refine OGo.on (fun t k => XS.iload X227.here hx rfl (hb hby at_162) rfl k) ?_
          show OGo p e below s _ _ _ (T227.setTop (mkF m 164 #[.val (.int vw), .val (.int va), .val (.int vb), .val (.int vc), .val (.int vs), .val (.int vq), .val (.int vo), .val (.int ((vw &&& (2147483647 : Int32)) % (6 : Int32))), .val (.int (3 : Int32)), .val (.ref b218), .val (.long (own_key (3 : Int32) vs vq vo)), .second, .unset, .unset] [(.int vs)]))
          refine OGo.on (fun t k => XS.i2l X227.here hx rfl (hb hby at_164) rfl k) ?_
          show OGo p e below s _ _ _ (T227.setTop (mkF m 165 #[.val (.int vw), .val (.int va), .val (.int vb), .val (.int vc), .val (.int vs), .val (.int vq), .val (.int vo), .val (.int ((vw &&& (2147483647 : Int32)) % (6 : Int32))), .val (.int (3 : Int32)), .val (.ref b218), .val (.long (own_key (3 : Int32) vs vq vo)), .second, .unset, .unset] [(.long (vs.toInt64))]))
          refine OGo.on (fun t k => X227.ldc2J hx hown (mvT hZ (hw _ (List.mem_of_getElem? (i := 47) rfl))) (g := (mkF m 165 #[.val (.int vw), .val (.int va), .val (.int vb), .val (.int vc), .val (.int vs), .val (.int vq), .val (.int vo), .val (.int ((vw &&& (2147483647 : Int32)) % (6 : Int32))), .val (.int (3 : Int32)), .val (.ref b218), .val (.long (own_key (3 : Int32) vs vq vo)), .second, .unset, .unset] [(.long (vs.toInt64))])) rfl (hb hby at_165) k) ?_
          show OGo p e below s _ _ _ (T227.setTop (mkF m 168 #[.val (.int vw), .val (.int va), .val (.int vb), .val (.int vc), .val (.int vs), .val (.int vq), .val (.int vo), .val (.int ((vw &&& (2147483647 : Int32)) % (6 : Int32))), .val (.int (3 : Int32)), .val (.ref b218), .val (.long (own_key (3 : Int32) vs vq vo)), .second, .unset, .unset] [(.long (4294967296 : Int64)), (.long (vs.toInt64))]))
          refine OGo.on (fun t k => XS.lmul X227.here hx rfl (hb hby at_168) rfl k) ?_
          show OGo p e below s _ _ _ (T227.setTop (mkF m 169 #[.val (.int vw), .val (.int va), .val (.int vb), .val (.int vc), .val (.int vs), .val (.int vq), .val (.int vo), .val (.int ((vw &&& (2147483647 : Int32)) % (6 : Int32))), .val (.int (3 : Int32)), .val (.ref b218), .val (.long (own_key (3 : Int32) vs vq vo)), .second, .unset, .unset] [(.long ((vs.toInt64) * (4294967296 : Int64)))]))
          refine OGo.on (fun t k => XS.iload X227.here hx rfl (hb hby at_169) rfl k) ?_
          show OGo p e below s _ _ _ (T227.setTop (mkF m 171 #[.val (.int vw), .val (.int va), .val (.int vb), .val (.int vc), .val (.int vs), .val (.int vq), .val (.int vo), .val (.int ((vw &&& (2147483647 : Int32)) % (6 : Int32))), .val (.int (3 : Int32)), .val (.ref b218), .val (.long (own_key (3 : Int32) vs vq vo)), .second, .unset, .unset] [(.int vq), (.long ((vs.toInt64) * (4294967296 : Int64)))]))
          refine OGo.on (fun t k => XS.i2l X227.here hx rfl (hb hby at_171) rfl k) ?_
          show OGo p e below s _ _ _ (T227.setTop (mkF m 172 #[.val (.int vw), .val (.int va), .val (.int vb), .val (.int vc), .val (.int vs), .val (.int vq), .val (.int vo), .val (.int ((vw &&& (2147483647 : Int32)) % (6 : Int32))), .val (.int (3 : Int32)), .val (.ref b218), .val (.long (own_key (3 : Int32) vs vq vo)), .second, .unset, .unset] [(.long (vq.toInt64)), (.long ((vs.toInt64) * (4294967296 : Int64)))]))
          refine OGo.on (fun t k => XS.ladd X227.here hx rfl (hb hby at_172) rfl k) ?_
          show OGo p e below s _ _ _ (T227.setTop (mkF m 173 #[.val (.int vw), .val (.int va), .val (.int vb), .val (.int vc), .val (.int vs), .val (.int vq), .val (.int vo), .val (.int ((vw &&& (2147483647 : Int32)) % (6 : Int32))), .val (.int (3 : Int32)), .val (.ref b218), .val (.long (own_key (3 : Int32) vs vq vo)), .second, .unset, .unset] [(.long (((vs.toInt64) * (4294967296 : Int64)) + (vq.toInt64)))]))
          refine OGo.on (fun t k => XS.lstore X227.here hx rfl (hb hby at_173) rfl (l' := #[.val (.int vw), .val (.int va), .val (.int vb), .val (.int vc), .val (.int vs), .val (.int vq), .val (.int vo), .val (.int ((vw &&& (2147483647 : Int32)) % (6 : Int32))), .val (.int (3 : Int32)), .val (.ref b218), .val (.long (own_key (3 : Int32) vs vq vo)), .second, .val (.long (((vs.toInt64) * (4294967296 : Int64)) + (vq.toInt64))), .second]) rfl k) ?_
          show OGo p e below s _ _ _ (T227.setTop (mkF m 175 #[.val (.int vw), .val (.int va), .val (.int vb), .val (.int vc), .val (.int vs), .val (.int vq), .val (.int vo), .val (.int ((vw &&& (2147483647 : Int32)) % (6 : Int32))), .val (.int (3 : Int32)), .val (.ref b218), .val (.long (own_key (3 : Int32) vs vq vo)), .second, .val (.long (((vs.toInt64) * (4294967296 : Int64)) + (vq.toInt64))), .second] []))
          refine OGo.on (fun t k => XS.goto X227.here hx rfl (pc0 := 175) (pc' := 213) rfl (hb hby at_175) (by decide) (by decide) k) ?_
          show OGo p e below s _ _ _ (T227.setTop (mkF m 213 #[.val (.int vw), .val (.int va), .val (.int vb), .val (.int vc), .val (.int vs), .val (.int vq), .val (.int vo), .val (.int ((vw &&& (2147483647 : Int32)) % (6 : Int32))), .val (.int (3 : Int32)), .val (.ref b218), .val (.long (own_key (3 : Int32) vs vq vo)), .second, .val (.long (((vs.toInt64) * (4294967296 : Int64)) + (vq.toInt64))), .second] []))
          refine OGo.on (fun t k => XS.lload X227.here hx rfl (hb hby at_213) rfl k) ?_
          show OGo p e below s _ _ _ (T227.setTop (mkF m 215 #[.val (.int vw), .val (.int va), .val (.int vb), .val (.int vc), .val (.int vs), .val (.int vq), .val (.int vo), .val (.int ((vw &&& (2147483647 : Int32)) % (6 : Int32))), .val (.int (3 : Int32)), .val (.ref b218), .val (.long (own_key (3 : Int32) vs vq vo)), .second, .val (.long (((vs.toInt64) * (4294967296 : Int64)) + (vq.toInt64))), .second] [(.long (own_key (3 : Int32) vs vq vo))]))
          refine OGo.on (fun t k => XS.lload X227.here hx rfl (hb hby at_215) rfl k) ?_
          show OGo p e below s _ _ _ (T227.setTop (mkF m 217 #[.val (.int vw), .val (.int va), .val (.int vb), .val (.int vc), .val (.int vs), .val (.int vq), .val (.int vo), .val (.int ((vw &&& (2147483647 : Int32)) % (6 : Int32))), .val (.int (3 : Int32)), .val (.ref b218), .val (.long (own_key (3 : Int32) vs vq vo)), .second, .val (.long (((vs.toInt64) * (4294967296 : Int64)) + (vq.toInt64))), .second] [(.long (((vs.toInt64) * (4294967296 : Int64)) + (vq.toInt64))), (.long (own_key (3 : Int32) vs vq vo))]))
          refine OGo.on (fun t k => XS.lcmp X227.here hx rfl (hb hby at_217) rfl k) ?_
          show OGo p e below s _ _ _ (T227.setTop (mkF m 218 #[.val (.int vw), .val (.int va), .val (.int vb), .val (.int vc), .val (.int vs), .val (.int vq), .val (.int vo), .val (.int ((vw &&& (2147483647 : Int32)) % (6 : Int32))), .val (.int (3 : Int32)), .val (.ref b218), .val (.long (own_key (3 : Int32) vs vq vo)), .second, .val (.long (((vs.toInt64) * (4294967296 : Int64)) + (vq.toInt64))), .second] [(.int (lcmpW (own_key (3 : Int32) vs vq vo) (((vs.toInt64) * (4294967296 : Int64)) + (vq.toInt64))))]))
          refine OGo.on (fun t k => XS.ifNo X227.here hx rfl (hb hby at_218) rfl (lc_teq (own_p3 vo hvs hvq)).2 k) ?_
          show OGo p e below s _ _ _ (T227.setTop (mkF m 221 #[.val (.int vw), .val (.int va), .val (.int vb), .val (.int vc), .val (.int vs), .val (.int vq), .val (.int vo), .val (.int ((vw &&& (2147483647 : Int32)) % (6 : Int32))), .val (.int (3 : Int32)), .val (.ref b218), .val (.long (own_key (3 : Int32) vs vq vo)), .second, .val (.long (((vs.toInt64) * (4294967296 : Int64)) + (vq.toInt64))), .second] []))
          refine OGo.on (fun t k => XS.aload X227.here hx rfl (hb hby at_221) rfl rfl k) ?_
          show OGo p e below s _ _ _ (T227.setTop (mkF m 223 #[.val (.int vw), .val (.int va), .val (.int vb), .val (.int vc), .val (.int vs), .val (.int vq), .val (.int vo), .val (.int ((vw &&& (2147483647 : Int32)) % (6 : Int32))), .val (.int (3 : Int32)), .val (.ref b218), .val (.long (own_key (3 : Int32) vs vq vo)), .second, .val (.long (((vs.toInt64) * (4294967296 : Int64)) + (vq.toInt64))), .second] [(.ref b218)]))
          obtain ⟨cq228, kq228, q228a, q228b, q228c⟩ := isOf hZ e227 f225
          obtain ⟨_, _, ⟨T228, L228, k228, n228⟩, -, X228, ⟨Lc228, hQ228, l228, y228, z228⟩, st228⟩ := X227.virtualBack hx (y := (⟨"org/surnia/graph/Chains", "places", "()I"⟩ : MethodName)) (z := (⟨"org/surnia/graph/Chains", "places", "()I"⟩ : MethodName)) hown (mvT hZ (hw _ (List.mem_of_getElem? (i := 42) rfl))) (mvT hZ (hw _ (List.mem_of_getElem? (i := 43) rfl))) (notFace_of_selects (args := #[]) (mvT hZ (hw _ (List.mem_of_getElem? (i := 45) rfl)))) (mvT hZ (hw _ (List.mem_of_getElem? (i := 45) rfl))) (mvT hZ (hw _ (List.mem_of_getElem? (i := 44) rfl))) (by decide) (backOf (W := 0) (own_mplaces l Z a0 hw [] b218 (3 : Int32) T224.heap n0 Z226 Fp224) hZ (hw _ (List.mem_of_getElem? (i := 46) rfl)) (hw _ (List.mem_of_getElem? (i := 3) rfl)) (by decide) (by decide)) q228a q228c (g := (mkF m 223 #[.val (.int vw), .val (.int va), .val (.int vb), .val (.int vc), .val (.int vs), .val (.int vq), .val (.int vo), .val (.int ((vw &&& (2147483647 : Int32)) % (6 : Int32))), .val (.int (3 : Int32)), .val (.ref b218), .val (.long (own_key (3 : Int32) vs vq vo)), .second, .val (.long (((vs.toInt64) * (4294967296 : Int64)) + (vq.toInt64))), .second] [(.ref b218)])) rfl (by rw [hml]; rfl) (Steps.refl _) (argsL := []) (rest := []) (lenOf own_pd5 rfl) rfl (by show 2 * 0 + _ ≤ _; exact Nat.le_of_eq rfl) (hb hby at_223) (fun _ _ => ⟨rfl, e227, (by decide : 5 + 0 ≤ _), (by decide : 54 + 0 ≤ _)⟩)
          dsimp only [Pt.U, Pt.locs, Pt.cells, Pt.slots] at X228 l228 y228 z228 st228 hQ228
          subst l228 y228 z228
          obtain ⟨rfl, N228q, e228⟩ := hQ228
          have N228 := Fr.app N227 N228q
          refine OGo.on (fun t k => st228.trans k) ?_
          show OGo p e below s _ _ _ (T228.setTop (mkF m 226 #[.val (.int vw), .val (.int va), .val (.int vb), .val (.int vc), .val (.int vs), .val (.int vq), .val (.int vo), .val (.int ((vw &&& (2147483647 : Int32)) % (6 : Int32))), .val (.int (3 : Int32)), .val (.ref b218), .val (.long (own_key (3 : Int32) vs vq vo)), .second, .val (.long (((vs.toInt64) * (4294967296 : Int64)) + (vq.toInt64))), .second] [(.int (3 : Int32))]))
          refine OGo.on (fun t k => XS.iload X228.here hx rfl (hb hby at_226) rfl k) ?_
          show OGo p e below s _ _ _ (T228.setTop (mkF m 228 #[.val (.int vw), .val (.int va), .val (.int vb), .val (.int vc), .val (.int vs), .val (.int vq), .val (.int vo), .val (.int ((vw &&& (2147483647 : Int32)) % (6 : Int32))), .val (.int (3 : Int32)), .val (.ref b218), .val (.long (own_key (3 : Int32) vs vq vo)), .second, .val (.long (((vs.toInt64) * (4294967296 : Int64)) + (vq.toInt64))), .second] [(.int (3 : Int32)), (.int (3 : Int32))]))
          refine OGo.on (fun t k => XS.icmpNo X228.here hx rfl (hb hby at_228) rfl (teq (by decide)).2 k) ?_
          show OGo p e below s _ _ _ (T228.setTop (mkF m 231 #[.val (.int vw), .val (.int va), .val (.int vb), .val (.int vc), .val (.int vs), .val (.int vq), .val (.int vo), .val (.int ((vw &&& (2147483647 : Int32)) % (6 : Int32))), .val (.int (3 : Int32)), .val (.ref b218), .val (.long (own_key (3 : Int32) vs vq vo)), .second, .val (.long (((vs.toInt64) * (4294967296 : Int64)) + (vq.toInt64))), .second] []))
          refine OGo.on (fun t k => XS.iconst X228.here hx rfl (hb hby at_231) k) ?_
          show OGo p e below s _ _ _ (T228.setTop (mkF m 232 #[.val (.int vw), .val (.int va), .val (.int vb), .val (.int vc), .val (.int vs), .val (.int vq), .val (.int vo), .val (.int ((vw &&& (2147483647 : Int32)) % (6 : Int32))), .val (.int (3 : Int32)), .val (.ref b218), .val (.long (own_key (3 : Int32) vs vq vo)), .second, .val (.long (((vs.toInt64) * (4294967296 : Int64)) + (vq.toInt64))), .second] [(.int (1 : Int32))]))
          refine OGo.on (fun t k => XS.goto X228.here hx rfl (pc0 := 232) (pc' := 236) rfl (hb hby at_232) (by decide) (by decide) k) ?_
          show OGo p e below s _ _ _ (T228.setTop (mkF m 236 #[.val (.int vw), .val (.int va), .val (.int vb), .val (.int vc), .val (.int vs), .val (.int vq), .val (.int vo), .val (.int ((vw &&& (2147483647 : Int32)) % (6 : Int32))), .val (.int (3 : Int32)), .val (.ref b218), .val (.long (own_key (3 : Int32) vs vq vo)), .second, .val (.long (((vs.toInt64) * (4294967296 : Int64)) + (vq.toInt64))), .second] [(.int (1 : Int32))]))
          exact OGo.retN X228 hx (t := .boolean) hret hlk (by simp) (hb hby at_236) ⟨rfl, N228⟩ (by decide) (by decide)
        · refine OGo.on (fun t k => XS.icmpYes X0.here hx rfl (pc0 := 65) (pc' := 74) rfl (hb hby at_65) rfl (feq hc217).2 (by decide) (by decide) k) ?_
          show OGo p e below s _ _ _ (s₁.setTop (mkF m 74 #[.val (.int vw), .val (.int va), .val (.int vb), .val (.int vc), .val (.int vs), .val (.int vq), .val (.int vo), .val (.int ((vw &&& (2147483647 : Int32)) % (6 : Int32))), .unset, .unset, .unset, .unset, .unset, .unset] []))
          refine OGo.on (fun t k => XS.iload X0.here hx rfl (hb hby at_74) rfl k) ?_
          show OGo p e below s _ _ _ (s₁.setTop (mkF m 76 #[.val (.int vw), .val (.int va), .val (.int vb), .val (.int vc), .val (.int vs), .val (.int vq), .val (.int vo), .val (.int ((vw &&& (2147483647 : Int32)) % (6 : Int32))), .unset, .unset, .unset, .unset, .unset, .unset] [(.int ((vw &&& (2147483647 : Int32)) % (6 : Int32)))]))
          refine OGo.on (fun t k => XS.iconst X0.here hx rfl (hb hby at_76) k) ?_
          show OGo p e below s _ _ _ (s₁.setTop (mkF m 77 #[.val (.int vw), .val (.int va), .val (.int vb), .val (.int vc), .val (.int vs), .val (.int vq), .val (.int vo), .val (.int ((vw &&& (2147483647 : Int32)) % (6 : Int32))), .unset, .unset, .unset, .unset, .unset, .unset] [(.int (4 : Int32)), (.int ((vw &&& (2147483647 : Int32)) % (6 : Int32)))]))
          by_cases hc229 : ((vw &&& (2147483647 : Int32)) % (6 : Int32)) = (4 : Int32)
          · refine OGo.on (fun t k => XS.icmpNo X0.here hx rfl (hb hby at_77) rfl (teq hc229).2 k) ?_
            show OGo p e below s _ _ _ (s₁.setTop (mkF m 80 #[.val (.int vw), .val (.int va), .val (.int vb), .val (.int vc), .val (.int vs), .val (.int vq), .val (.int vo), .val (.int ((vw &&& (2147483647 : Int32)) % (6 : Int32))), .unset, .unset, .unset, .unset, .unset, .unset] []))
            refine OGo.on (fun t k => XS.iconst X0.here hx rfl (hb hby at_80) k) ?_
            show OGo p e below s _ _ _ (s₁.setTop (mkF m 81 #[.val (.int vw), .val (.int va), .val (.int vb), .val (.int vc), .val (.int vs), .val (.int vq), .val (.int vo), .val (.int ((vw &&& (2147483647 : Int32)) % (6 : Int32))), .unset, .unset, .unset, .unset, .unset, .unset] [(.int (5 : Int32))]))
            refine OGo.on (fun t k => XS.istore X0.here hx rfl (hb hby at_81) rfl (l' := #[.val (.int vw), .val (.int va), .val (.int vb), .val (.int vc), .val (.int vs), .val (.int vq), .val (.int vo), .val (.int ((vw &&& (2147483647 : Int32)) % (6 : Int32))), .val (.int (5 : Int32)), .unset, .unset, .unset, .unset, .unset]) rfl k) ?_
            show OGo p e below s _ _ _ (s₁.setTop (mkF m 83 #[.val (.int vw), .val (.int va), .val (.int vb), .val (.int vc), .val (.int vs), .val (.int vq), .val (.int vo), .val (.int ((vw &&& (2147483647 : Int32)) % (6 : Int32))), .val (.int (5 : Int32)), .unset, .unset, .unset, .unset, .unset] []))
            refine OGo.on (fun t k => XS.goto X0.here hx rfl (pc0 := 83) (pc' := 90) rfl (hb hby at_83) (by decide) (by decide) k) ?_
            show OGo p e below s _ _ _ (s₁.setTop (mkF m 90 #[.val (.int vw), .val (.int va), .val (.int vb), .val (.int vc), .val (.int vs), .val (.int vq), .val (.int vo), .val (.int ((vw &&& (2147483647 : Int32)) % (6 : Int32))), .val (.int (5 : Int32)), .unset, .unset, .unset, .unset, .unset] []))
            obtain ⟨T230, h230, X230, e230, E230, A230, D230, -, st230⟩ := newO X0 hx hZ hown (hw _ (List.mem_of_getElem? (i := 1) rfl)) (hw _ (List.mem_of_getElem? (i := 2) rfl)) (hw _ (List.mem_of_getElem? (i := 3) rfl)) e0 (g := (mkF m 90 #[.val (.int vw), .val (.int va), .val (.int vb), .val (.int vc), .val (.int vs), .val (.int vq), .val (.int vo), .val (.int ((vw &&& (2147483647 : Int32)) % (6 : Int32))), .val (.int (5 : Int32)), .unset, .unset, .unset, .unset, .unset] [])) rfl (hb hby at_90) (by decide) (by decide)
            obtain ⟨b230, g230⟩ : ∃ z, z = h0.size := ⟨_, rfl⟩
            rw [← g230] at A230 D230 st230
            have ge231 : n0 ≤ b230 := Nat.le_trans Z0 (Nat.le_of_eq g230.symm)
            have Z232 : n0 ≤ h230.size := Nat.le_trans Z0 E230.1
            have f233 : Fld Z h230 b230 "org/surnia/graph/Chains" "newest" "Lorg/surnia/graph/LongIntMap;" .null := D230 (Or.inr (hw _ (List.mem_of_getElem? (i := 32) rfl))) (ty := (.object "org/surnia/graph/LongIntMap")) (by decide)
            have f234 : Fld Z h230 b230 "org/surnia/graph/Chains" "older" "[I" .null := D230 (Or.inl (hw _ (List.mem_of_getElem? (i := 34) rfl))) (ty := (.array .int)) (by decide)
            have f235 : Fld Z h230 b230 "org/surnia/graph/Chains" "places" "I" (.int (0 : Int32)) := D230 (Or.inr (hw _ (List.mem_of_getElem? (i := 36) rfl))) (ty := .int) (by decide)
            refine OGo.on st230 ?_
            show OGo p e below s _ _ _ (T230.setTop (mkF m 93 #[.val (.int vw), .val (.int va), .val (.int vb), .val (.int vc), .val (.int vs), .val (.int vq), .val (.int vo), .val (.int ((vw &&& (2147483647 : Int32)) % (6 : Int32))), .val (.int (5 : Int32)), .unset, .unset, .unset, .unset, .unset] [(.ref b230)]))
            refine OGo.on (fun t k => XS.dup X230.here hx rfl (hb hby at_93) rfl rfl k) ?_
            show OGo p e below s _ _ _ (T230.setTop (mkF m 94 #[.val (.int vw), .val (.int va), .val (.int vb), .val (.int vc), .val (.int vs), .val (.int vq), .val (.int vo), .val (.int ((vw &&& (2147483647 : Int32)) % (6 : Int32))), .val (.int (5 : Int32)), .unset, .unset, .unset, .unset, .unset] [(.ref b230), (.ref b230)]))
            refine OGo.on (fun t k => XS.iload X230.here hx rfl (hb hby at_94) rfl k) ?_
            show OGo p e below s _ _ _ (T230.setTop (mkF m 96 #[.val (.int vw), .val (.int va), .val (.int vb), .val (.int vc), .val (.int vs), .val (.int vq), .val (.int vo), .val (.int ((vw &&& (2147483647 : Int32)) % (6 : Int32))), .val (.int (5 : Int32)), .unset, .unset, .unset, .unset, .unset] [(.int (5 : Int32)), (.ref b230), (.ref b230)]))
            obtain ⟨_, _, ⟨T236, L236, k236, n236⟩, -, X236, ⟨Lc236, hQ236, l236, y236, z236⟩, st236⟩ := X230.specialBack hx (y := (⟨"org/surnia/graph/Chains", "<init>", "(I)V"⟩ : MethodName)) rfl hown (mvT hZ (hw _ (List.mem_of_getElem? (i := 4) rfl))) (mvT hZ (hw _ (List.mem_of_getElem? (i := 5) rfl))) (mvT hZ (hw _ (List.mem_of_getElem? (i := 6) rfl))) (by decide) (backOf (W := 1) (own_chinit l Z a0 hw [] b230 (5 : Int32) h230 n0 Z232 ge231 A230 f233 f234 f235) hZ (hw _ (List.mem_of_getElem? (i := 6) rfl)) (hw _ (List.mem_of_getElem? (i := 3) rfl)) (by decide) (by decide)) (g := (mkF m 96 #[.val (.int vw), .val (.int va), .val (.int vb), .val (.int vc), .val (.int vs), .val (.int vq), .val (.int vo), .val (.int ((vw &&& (2147483647 : Int32)) % (6 : Int32))), .val (.int (5 : Int32)), .unset, .unset, .unset, .unset, .unset] [(.int (5 : Int32)), (.ref b230), (.ref b230)])) rfl (by rw [hml]; rfl) (Steps.refl _) (a := b230) (argsL := [(.int (5 : Int32))]) (rest := [(.ref b230)]) (lenOf own_pd3 rfl) rfl (by show 2 * 0 + _ ≤ _; exact Nat.le_of_eq rfl) (hb hby at_96) (fun _ _ => ⟨rfl, e230, (by decide : 1 + 4 ≤ _), (by decide : 3 + 51 ≤ _)⟩)
            dsimp only [Pt.U, Pt.locs, Pt.cells, Pt.slots] at X236 l236 y236 z236 st236 hQ236
            subst l236 y236 z236
            obtain ⟨rfl, N236q, K236, Fp236⟩ := hQ236
            have N236 := Fr.app N0 N236q
            have f237 : Exa Z T236.heap b230 "org/surnia/graph/Chains" := A230.keep K236
            have Z238 : n0 ≤ T236.heap.size := Nat.le_trans Z232 K236.1
            have eh236 : T236.heap = T236.heap := rfl
            refine OGo.on (fun t k => st236.trans k) ?_
            show OGo p e below s _ _ _ (T236.setTop (mkF m 99 #[.val (.int vw), .val (.int va), .val (.int vb), .val (.int vc), .val (.int vs), .val (.int vq), .val (.int vo), .val (.int ((vw &&& (2147483647 : Int32)) % (6 : Int32))), .val (.int (5 : Int32)), .unset, .unset, .unset, .unset, .unset] [(.ref b230)]))
            refine OGo.on (fun t k => XS.astore X236.here hx rfl (hb hby at_99) rfl rfl (l' := #[.val (.int vw), .val (.int va), .val (.int vb), .val (.int vc), .val (.int vs), .val (.int vq), .val (.int vo), .val (.int ((vw &&& (2147483647 : Int32)) % (6 : Int32))), .val (.int (5 : Int32)), .val (.ref b230), .unset, .unset, .unset, .unset]) rfl k) ?_
            show OGo p e below s _ _ _ (T236.setTop (mkF m 101 #[.val (.int vw), .val (.int va), .val (.int vb), .val (.int vc), .val (.int vs), .val (.int vq), .val (.int vo), .val (.int ((vw &&& (2147483647 : Int32)) % (6 : Int32))), .val (.int (5 : Int32)), .val (.ref b230), .unset, .unset, .unset, .unset] []))
            refine OGo.on (fun t k => XS.aload X236.here hx rfl (hb hby at_101) rfl rfl k) ?_
            show OGo p e below s _ _ _ (T236.setTop (mkF m 103 #[.val (.int vw), .val (.int va), .val (.int vb), .val (.int vc), .val (.int vs), .val (.int vq), .val (.int vo), .val (.int ((vw &&& (2147483647 : Int32)) % (6 : Int32))), .val (.int (5 : Int32)), .val (.ref b230), .unset, .unset, .unset, .unset] [(.ref b230)]))
            refine OGo.on (fun t k => XS.iload X236.here hx rfl (hb hby at_103) rfl k) ?_
            show OGo p e below s _ _ _ (T236.setTop (mkF m 105 #[.val (.int vw), .val (.int va), .val (.int vb), .val (.int vc), .val (.int vs), .val (.int vq), .val (.int vo), .val (.int ((vw &&& (2147483647 : Int32)) % (6 : Int32))), .val (.int (5 : Int32)), .val (.ref b230), .unset, .unset, .unset, .unset] [(.int vs), (.ref b230)]))
            refine OGo.on (fun t k => XS.iload X236.here hx rfl (hb hby at_105) rfl k) ?_
            show OGo p e below s _ _ _ (T236.setTop (mkF m 107 #[.val (.int vw), .val (.int va), .val (.int vb), .val (.int vc), .val (.int vs), .val (.int vq), .val (.int vo), .val (.int ((vw &&& (2147483647 : Int32)) % (6 : Int32))), .val (.int (5 : Int32)), .val (.ref b230), .unset, .unset, .unset, .unset] [(.int vq), (.int vs), (.ref b230)]))
            refine OGo.on (fun t k => XS.iload X236.here hx rfl (hb hby at_107) rfl k) ?_
            show OGo p e below s _ _ _ (T236.setTop (mkF m 109 #[.val (.int vw), .val (.int va), .val (.int vb), .val (.int vc), .val (.int vs), .val (.int vq), .val (.int vo), .val (.int ((vw &&& (2147483647 : Int32)) % (6 : Int32))), .val (.int (5 : Int32)), .val (.ref b230), .unset, .unset, .unset, .unset] [(.int vo), (.int vq), (.int vs), (.ref b230)]))
            obtain ⟨cq239, kq239, q239a, q239b, q239c⟩ := isOf hZ eh236 f237
            obtain ⟨_, _, ⟨T239, L239, k239, n239⟩, -, X239, ⟨Lc239, hQ239, l239, y239, z239⟩, st239⟩ := X236.virtualBack hx (y := (⟨"org/surnia/graph/Chains", "key", "(III)J"⟩ : MethodName)) (z := (⟨"org/surnia/graph/Chains", "key", "(III)J"⟩ : MethodName)) hown (mvT hZ (hw _ (List.mem_of_getElem? (i := 37) rfl))) (mvT hZ (hw _ (List.mem_of_getElem? (i := 38) rfl))) (notFace_of_selects (args := #[]) (mvT hZ (hw _ (List.mem_of_getElem? (i := 40) rfl)))) (mvT hZ (hw _ (List.mem_of_getElem? (i := 40) rfl))) (mvT hZ (hw _ (List.mem_of_getElem? (i := 39) rfl))) (by decide) (backOf (W := 0) (own_mkey l Z a0 hw [] b230 vs vq vo (5 : Int32) T236.heap n0 Z238 Fp236) hZ (hw _ (List.mem_of_getElem? (i := 41) rfl)) (hw _ (List.mem_of_getElem? (i := 3) rfl)) (by decide) (by decide)) q239a q239c (g := (mkF m 109 #[.val (.int vw), .val (.int va), .val (.int vb), .val (.int vc), .val (.int vs), .val (.int vq), .val (.int vo), .val (.int ((vw &&& (2147483647 : Int32)) % (6 : Int32))), .val (.int (5 : Int32)), .val (.ref b230), .unset, .unset, .unset, .unset] [(.int vo), (.int vq), (.int vs), (.ref b230)])) rfl (by rw [hml]; rfl) (Steps.refl _) (argsL := [(.int vs), (.int vq), (.int vo)]) (rest := []) (lenOf own_pd4 rfl) rfl (by show 2 * 0 + _ ≤ _; exact Nat.le_of_eq rfl) (hb hby at_109) (fun _ _ => ⟨rfl, eh236, (by decide : 5 + 0 ≤ _), (by decide : 54 + 0 ≤ _)⟩)
            dsimp only [Pt.U, Pt.locs, Pt.cells, Pt.slots] at X239 l239 y239 z239 st239 hQ239
            subst l239 y239 z239
            obtain ⟨rfl, N239q, e239⟩ := hQ239
            have N239 := Fr.app N236 N239q
            refine OGo.on (fun t k => st239.trans k) ?_
            show OGo p e below s _ _ _ (T239.setTop (mkF m 112 #[.val (.int vw), .val (.int va), .val (.int vb), .val (.int vc), .val (.int vs), .val (.int vq), .val (.int vo), .val (.int ((vw &&& (2147483647 : Int32)) % (6 : Int32))), .val (.int (5 : Int32)), .val (.ref b230), .unset, .unset, .unset, .unset] [(.long (own_key (5 : Int32) vs vq vo))]))
            refine OGo.on (fun t k => XS.lstore X239.here hx rfl (hb hby at_112) rfl (l' := #[.val (.int vw), .val (.int va), .val (.int vb), .val (.int vc), .val (.int vs), .val (.int vq), .val (.int vo), .val (.int ((vw &&& (2147483647 : Int32)) % (6 : Int32))), .val (.int (5 : Int32)), .val (.ref b230), .val (.long (own_key (5 : Int32) vs vq vo)), .second, .unset, .unset]) rfl k) ?_
            show OGo p e below s _ _ _ (T239.setTop (mkF m 114 #[.val (.int vw), .val (.int va), .val (.int vb), .val (.int vc), .val (.int vs), .val (.int vq), .val (.int vo), .val (.int ((vw &&& (2147483647 : Int32)) % (6 : Int32))), .val (.int (5 : Int32)), .val (.ref b230), .val (.long (own_key (5 : Int32) vs vq vo)), .second, .unset, .unset] []))
            refine OGo.on (fun t k => XS.iload X239.here hx rfl (hb hby at_114) rfl k) ?_
            show OGo p e below s _ _ _ (T239.setTop (mkF m 116 #[.val (.int vw), .val (.int va), .val (.int vb), .val (.int vc), .val (.int vs), .val (.int vq), .val (.int vo), .val (.int ((vw &&& (2147483647 : Int32)) % (6 : Int32))), .val (.int (5 : Int32)), .val (.ref b230), .val (.long (own_key (5 : Int32) vs vq vo)), .second, .unset, .unset] [(.int (5 : Int32))]))
            refine OGo.on (fun t k => XS.iconst X239.here hx rfl (hb hby at_116) k) ?_
            show OGo p e below s _ _ _ (T239.setTop (mkF m 117 #[.val (.int vw), .val (.int va), .val (.int vb), .val (.int vc), .val (.int vs), .val (.int vq), .val (.int vo), .val (.int ((vw &&& (2147483647 : Int32)) % (6 : Int32))), .val (.int (5 : Int32)), .val (.ref b230), .val (.long (own_key (5 : Int32) vs vq vo)), .second, .unset, .unset] [(.int (1 : Int32)), (.int (5 : Int32))]))
            refine OGo.on (fun t k => XS.icmpYes X239.here hx rfl (pc0 := 117) (pc' := 128) rfl (hb hby at_117) rfl (feq (by decide)).2 (by decide) (by decide) k) ?_
            show OGo p e below s _ _ _ (T239.setTop (mkF m 128 #[.val (.int vw), .val (.int va), .val (.int vb), .val (.int vc), .val (.int vs), .val (.int vq), .val (.int vo), .val (.int ((vw &&& (2147483647 : Int32)) % (6 : Int32))), .val (.int (5 : Int32)), .val (.ref b230), .val (.long (own_key (5 : Int32) vs vq vo)), .second, .unset, .unset] []))
            refine OGo.on (fun t k => XS.iload X239.here hx rfl (hb hby at_128) rfl k) ?_
            show OGo p e below s _ _ _ (T239.setTop (mkF m 130 #[.val (.int vw), .val (.int va), .val (.int vb), .val (.int vc), .val (.int vs), .val (.int vq), .val (.int vo), .val (.int ((vw &&& (2147483647 : Int32)) % (6 : Int32))), .val (.int (5 : Int32)), .val (.ref b230), .val (.long (own_key (5 : Int32) vs vq vo)), .second, .unset, .unset] [(.int (5 : Int32))]))
            refine OGo.on (fun t k => XS.iconst X239.here hx rfl (hb hby at_130) k) ?_
            show OGo p e below s _ _ _ (T239.setTop (mkF m 131 #[.val (.int vw), .val (.int va), .val (.int vb), .val (.int vc), .val (.int vs), .val (.int vq), .val (.int vo), .val (.int ((vw &&& (2147483647 : Int32)) % (6 : Int32))), .val (.int (5 : Int32)), .val (.ref b230), .val (.long (own_key (5 : Int32) vs vq vo)), .second, .unset, .unset] [(.int (2 : Int32)), (.int (5 : Int32))]))
            refine OGo.on (fun t k => XS.icmpYes X239.here hx rfl (pc0 := 131) (pc' := 142) rfl (hb hby at_131) rfl (feq (by decide)).2 (by decide) (by decide) k) ?_
            show OGo p e below s _ _ _ (T239.setTop (mkF m 142 #[.val (.int vw), .val (.int va), .val (.int vb), .val (.int vc), .val (.int vs), .val (.int vq), .val (.int vo), .val (.int ((vw &&& (2147483647 : Int32)) % (6 : Int32))), .val (.int (5 : Int32)), .val (.ref b230), .val (.long (own_key (5 : Int32) vs vq vo)), .second, .unset, .unset] []))
            refine OGo.on (fun t k => XS.iload X239.here hx rfl (hb hby at_142) rfl k) ?_
            show OGo p e below s _ _ _ (T239.setTop (mkF m 144 #[.val (.int vw), .val (.int va), .val (.int vb), .val (.int vc), .val (.int vs), .val (.int vq), .val (.int vo), .val (.int ((vw &&& (2147483647 : Int32)) % (6 : Int32))), .val (.int (5 : Int32)), .val (.ref b230), .val (.long (own_key (5 : Int32) vs vq vo)), .second, .unset, .unset] [(.int (5 : Int32))]))
            refine OGo.on (fun t k => XS.iconst X239.here hx rfl (hb hby at_144) k) ?_
            show OGo p e below s _ _ _ (T239.setTop (mkF m 145 #[.val (.int vw), .val (.int va), .val (.int vb), .val (.int vc), .val (.int vs), .val (.int vq), .val (.int vo), .val (.int ((vw &&& (2147483647 : Int32)) % (6 : Int32))), .val (.int (5 : Int32)), .val (.ref b230), .val (.long (own_key (5 : Int32) vs vq vo)), .second, .unset, .unset] [(.int (4 : Int32)), (.int (5 : Int32))]))
            refine OGo.on (fun t k => XS.icmpYes X239.here hx rfl (pc0 := 145) (pc' := 156) rfl (hb hby at_145) rfl (feq (by decide)).2 (by decide) (by decide) k) ?_
            show OGo p e below s _ _ _ (T239.setTop (mkF m 156 #[.val (.int vw), .val (.int va), .val (.int vb), .val (.int vc), .val (.int vs), .val (.int vq), .val (.int vo), .val (.int ((vw &&& (2147483647 : Int32)) % (6 : Int32))), .val (.int (5 : Int32)), .val (.ref b230), .val (.long (own_key (5 : Int32) vs vq vo)), .second, .unset, .unset] []))
            refine OGo.on (fun t k => XS.iload X239.here hx rfl (hb hby at_156) rfl k) ?_
            show OGo p e below s _ _ _ (T239.setTop (mkF m 158 #[.val (.int vw), .val (.int va), .val (.int vb), .val (.int vc), .val (.int vs), .val (.int vq), .val (.int vo), .val (.int ((vw &&& (2147483647 : Int32)) % (6 : Int32))), .val (.int (5 : Int32)), .val (.ref b230), .val (.long (own_key (5 : Int32) vs vq vo)), .second, .unset, .unset] [(.int (5 : Int32))]))
            refine OGo.on (fun t k => XS.iconst X239.here hx rfl (hb hby at_158) k) ?_
            show OGo p e below s _ _ _ (T239.setTop (mkF m 159 #[.val (.int vw), .val (.int va), .val (.int vb), .val (.int vc), .val (.int vs), .val (.int vq), .val (.int vo), .val (.int ((vw &&& (2147483647 : Int32)) % (6 : Int32))), .val (.int (5 : Int32)), .val (.ref b230), .val (.long (own_key (5 : Int32) vs vq vo)), .second, .unset, .unset] [(.int (3 : Int32)), (.int (5 : Int32))]))
            refine OGo.on (fun t k => XS.icmpYes X239.here hx rfl (pc0 := 159) (pc' := 178) rfl (hb hby at_159) rfl (feq (by decide)).2 (by decide) (by decide) k) ?_
            show OGo p e below s _ _ _ (T239.setTop (mkF m 178 #[.val (.int vw), .val (.int va), .val (.int vb), .val (.int vc), .val (.int vs), .val (.int vq), .val (.int vo), .val (.int ((vw &&& (2147483647 : Int32)) % (6 : Int32))), .val (.int (5 : Int32)), .val (.ref b230), .val (.long (own_key (5 : Int32) vs vq vo)), .second, .unset, .unset] []))
            refine OGo.on (fun t k => XS.iload X239.here hx rfl (hb hby at_178) rfl k) ?_
            show OGo p e below s _ _ _ (T239.setTop (mkF m 180 #[.val (.int vw), .val (.int va), .val (.int vb), .val (.int vc), .val (.int vs), .val (.int vq), .val (.int vo), .val (.int ((vw &&& (2147483647 : Int32)) % (6 : Int32))), .val (.int (5 : Int32)), .val (.ref b230), .val (.long (own_key (5 : Int32) vs vq vo)), .second, .unset, .unset] [(.int (5 : Int32))]))
            refine OGo.on (fun t k => XS.iconst X239.here hx rfl (hb hby at_180) k) ?_
            show OGo p e below s _ _ _ (T239.setTop (mkF m 181 #[.val (.int vw), .val (.int va), .val (.int vb), .val (.int vc), .val (.int vs), .val (.int vq), .val (.int vo), .val (.int ((vw &&& (2147483647 : Int32)) % (6 : Int32))), .val (.int (5 : Int32)), .val (.ref b230), .val (.long (own_key (5 : Int32) vs vq vo)), .second, .unset, .unset] [(.int (5 : Int32)), (.int (5 : Int32))]))
            refine OGo.on (fun t k => XS.icmpNo X239.here hx rfl (hb hby at_181) rfl (teq (by decide)).2 k) ?_
            show OGo p e below s _ _ _ (T239.setTop (mkF m 184 #[.val (.int vw), .val (.int va), .val (.int vb), .val (.int vc), .val (.int vs), .val (.int vq), .val (.int vo), .val (.int ((vw &&& (2147483647 : Int32)) % (6 : Int32))), .val (.int (5 : Int32)), .val (.ref b230), .val (.long (own_key (5 : Int32) vs vq vo)), .second, .unset, .unset] []))
            refine OGo.on (fun t k => XS.iload X239.here hx rfl (hb hby at_184) rfl k) ?_
            show OGo p e below s _ _ _ (T239.setTop (mkF m 186 #[.val (.int vw), .val (.int va), .val (.int vb), .val (.int vc), .val (.int vs), .val (.int vq), .val (.int vo), .val (.int ((vw &&& (2147483647 : Int32)) % (6 : Int32))), .val (.int (5 : Int32)), .val (.ref b230), .val (.long (own_key (5 : Int32) vs vq vo)), .second, .unset, .unset] [(.int vs)]))
            refine OGo.on (fun t k => XS.i2l X239.here hx rfl (hb hby at_186) rfl k) ?_
            show OGo p e below s _ _ _ (T239.setTop (mkF m 187 #[.val (.int vw), .val (.int va), .val (.int vb), .val (.int vc), .val (.int vs), .val (.int vq), .val (.int vo), .val (.int ((vw &&& (2147483647 : Int32)) % (6 : Int32))), .val (.int (5 : Int32)), .val (.ref b230), .val (.long (own_key (5 : Int32) vs vq vo)), .second, .unset, .unset] [(.long (vs.toInt64))]))
            refine OGo.on (fun t k => X239.ldc2J hx hown (mvT hZ (hw _ (List.mem_of_getElem? (i := 47) rfl))) (g := (mkF m 187 #[.val (.int vw), .val (.int va), .val (.int vb), .val (.int vc), .val (.int vs), .val (.int vq), .val (.int vo), .val (.int ((vw &&& (2147483647 : Int32)) % (6 : Int32))), .val (.int (5 : Int32)), .val (.ref b230), .val (.long (own_key (5 : Int32) vs vq vo)), .second, .unset, .unset] [(.long (vs.toInt64))])) rfl (hb hby at_187) k) ?_
            show OGo p e below s _ _ _ (T239.setTop (mkF m 190 #[.val (.int vw), .val (.int va), .val (.int vb), .val (.int vc), .val (.int vs), .val (.int vq), .val (.int vo), .val (.int ((vw &&& (2147483647 : Int32)) % (6 : Int32))), .val (.int (5 : Int32)), .val (.ref b230), .val (.long (own_key (5 : Int32) vs vq vo)), .second, .unset, .unset] [(.long (4294967296 : Int64)), (.long (vs.toInt64))]))
            refine OGo.on (fun t k => XS.lmul X239.here hx rfl (hb hby at_190) rfl k) ?_
            show OGo p e below s _ _ _ (T239.setTop (mkF m 191 #[.val (.int vw), .val (.int va), .val (.int vb), .val (.int vc), .val (.int vs), .val (.int vq), .val (.int vo), .val (.int ((vw &&& (2147483647 : Int32)) % (6 : Int32))), .val (.int (5 : Int32)), .val (.ref b230), .val (.long (own_key (5 : Int32) vs vq vo)), .second, .unset, .unset] [(.long ((vs.toInt64) * (4294967296 : Int64)))]))
            refine OGo.on (fun t k => XS.iload X239.here hx rfl (hb hby at_191) rfl k) ?_
            show OGo p e below s _ _ _ (T239.setTop (mkF m 193 #[.val (.int vw), .val (.int va), .val (.int vb), .val (.int vc), .val (.int vs), .val (.int vq), .val (.int vo), .val (.int ((vw &&& (2147483647 : Int32)) % (6 : Int32))), .val (.int (5 : Int32)), .val (.ref b230), .val (.long (own_key (5 : Int32) vs vq vo)), .second, .unset, .unset] [(.int vo), (.long ((vs.toInt64) * (4294967296 : Int64)))]))
            refine OGo.on (fun t k => XS.i2l X239.here hx rfl (hb hby at_193) rfl k) ?_
            show OGo p e below s _ _ _ (T239.setTop (mkF m 194 #[.val (.int vw), .val (.int va), .val (.int vb), .val (.int vc), .val (.int vs), .val (.int vq), .val (.int vo), .val (.int ((vw &&& (2147483647 : Int32)) % (6 : Int32))), .val (.int (5 : Int32)), .val (.ref b230), .val (.long (own_key (5 : Int32) vs vq vo)), .second, .unset, .unset] [(.long (vo.toInt64)), (.long ((vs.toInt64) * (4294967296 : Int64)))]))
            refine OGo.on (fun t k => XS.ladd X239.here hx rfl (hb hby at_194) rfl k) ?_
            show OGo p e below s _ _ _ (T239.setTop (mkF m 195 #[.val (.int vw), .val (.int va), .val (.int vb), .val (.int vc), .val (.int vs), .val (.int vq), .val (.int vo), .val (.int ((vw &&& (2147483647 : Int32)) % (6 : Int32))), .val (.int (5 : Int32)), .val (.ref b230), .val (.long (own_key (5 : Int32) vs vq vo)), .second, .unset, .unset] [(.long (((vs.toInt64) * (4294967296 : Int64)) + (vo.toInt64)))]))
            refine OGo.on (fun t k => XS.lstore X239.here hx rfl (hb hby at_195) rfl (l' := #[.val (.int vw), .val (.int va), .val (.int vb), .val (.int vc), .val (.int vs), .val (.int vq), .val (.int vo), .val (.int ((vw &&& (2147483647 : Int32)) % (6 : Int32))), .val (.int (5 : Int32)), .val (.ref b230), .val (.long (own_key (5 : Int32) vs vq vo)), .second, .val (.long (((vs.toInt64) * (4294967296 : Int64)) + (vo.toInt64))), .second]) rfl k) ?_
            show OGo p e below s _ _ _ (T239.setTop (mkF m 197 #[.val (.int vw), .val (.int va), .val (.int vb), .val (.int vc), .val (.int vs), .val (.int vq), .val (.int vo), .val (.int ((vw &&& (2147483647 : Int32)) % (6 : Int32))), .val (.int (5 : Int32)), .val (.ref b230), .val (.long (own_key (5 : Int32) vs vq vo)), .second, .val (.long (((vs.toInt64) * (4294967296 : Int64)) + (vo.toInt64))), .second] []))
            refine OGo.on (fun t k => XS.goto X239.here hx rfl (pc0 := 197) (pc' := 213) rfl (hb hby at_197) (by decide) (by decide) k) ?_
            show OGo p e below s _ _ _ (T239.setTop (mkF m 213 #[.val (.int vw), .val (.int va), .val (.int vb), .val (.int vc), .val (.int vs), .val (.int vq), .val (.int vo), .val (.int ((vw &&& (2147483647 : Int32)) % (6 : Int32))), .val (.int (5 : Int32)), .val (.ref b230), .val (.long (own_key (5 : Int32) vs vq vo)), .second, .val (.long (((vs.toInt64) * (4294967296 : Int64)) + (vo.toInt64))), .second] []))
            refine OGo.on (fun t k => XS.lload X239.here hx rfl (hb hby at_213) rfl k) ?_
            show OGo p e below s _ _ _ (T239.setTop (mkF m 215 #[.val (.int vw), .val (.int va), .val (.int vb), .val (.int vc), .val (.int vs), .val (.int vq), .val (.int vo), .val (.int ((vw &&& (2147483647 : Int32)) % (6 : Int32))), .val (.int (5 : Int32)), .val (.ref b230), .val (.long (own_key (5 : Int32) vs vq vo)), .second, .val (.long (((vs.toInt64) * (4294967296 : Int64)) + (vo.toInt64))), .second] [(.long (own_key (5 : Int32) vs vq vo))]))
            refine OGo.on (fun t k => XS.lload X239.here hx rfl (hb hby at_215) rfl k) ?_
            show OGo p e below s _ _ _ (T239.setTop (mkF m 217 #[.val (.int vw), .val (.int va), .val (.int vb), .val (.int vc), .val (.int vs), .val (.int vq), .val (.int vo), .val (.int ((vw &&& (2147483647 : Int32)) % (6 : Int32))), .val (.int (5 : Int32)), .val (.ref b230), .val (.long (own_key (5 : Int32) vs vq vo)), .second, .val (.long (((vs.toInt64) * (4294967296 : Int64)) + (vo.toInt64))), .second] [(.long (((vs.toInt64) * (4294967296 : Int64)) + (vo.toInt64))), (.long (own_key (5 : Int32) vs vq vo))]))
            refine OGo.on (fun t k => XS.lcmp X239.here hx rfl (hb hby at_217) rfl k) ?_
            show OGo p e below s _ _ _ (T239.setTop (mkF m 218 #[.val (.int vw), .val (.int va), .val (.int vb), .val (.int vc), .val (.int vs), .val (.int vq), .val (.int vo), .val (.int ((vw &&& (2147483647 : Int32)) % (6 : Int32))), .val (.int (5 : Int32)), .val (.ref b230), .val (.long (own_key (5 : Int32) vs vq vo)), .second, .val (.long (((vs.toInt64) * (4294967296 : Int64)) + (vo.toInt64))), .second] [(.int (lcmpW (own_key (5 : Int32) vs vq vo) (((vs.toInt64) * (4294967296 : Int64)) + (vo.toInt64))))]))
            refine OGo.on (fun t k => XS.ifNo X239.here hx rfl (hb hby at_218) rfl (lc_teq (own_p5 vq hvs hvo)).2 k) ?_
            show OGo p e below s _ _ _ (T239.setTop (mkF m 221 #[.val (.int vw), .val (.int va), .val (.int vb), .val (.int vc), .val (.int vs), .val (.int vq), .val (.int vo), .val (.int ((vw &&& (2147483647 : Int32)) % (6 : Int32))), .val (.int (5 : Int32)), .val (.ref b230), .val (.long (own_key (5 : Int32) vs vq vo)), .second, .val (.long (((vs.toInt64) * (4294967296 : Int64)) + (vo.toInt64))), .second] []))
            refine OGo.on (fun t k => XS.aload X239.here hx rfl (hb hby at_221) rfl rfl k) ?_
            show OGo p e below s _ _ _ (T239.setTop (mkF m 223 #[.val (.int vw), .val (.int va), .val (.int vb), .val (.int vc), .val (.int vs), .val (.int vq), .val (.int vo), .val (.int ((vw &&& (2147483647 : Int32)) % (6 : Int32))), .val (.int (5 : Int32)), .val (.ref b230), .val (.long (own_key (5 : Int32) vs vq vo)), .second, .val (.long (((vs.toInt64) * (4294967296 : Int64)) + (vo.toInt64))), .second] [(.ref b230)]))
            obtain ⟨cq240, kq240, q240a, q240b, q240c⟩ := isOf hZ e239 f237
            obtain ⟨_, _, ⟨T240, L240, k240, n240⟩, -, X240, ⟨Lc240, hQ240, l240, y240, z240⟩, st240⟩ := X239.virtualBack hx (y := (⟨"org/surnia/graph/Chains", "places", "()I"⟩ : MethodName)) (z := (⟨"org/surnia/graph/Chains", "places", "()I"⟩ : MethodName)) hown (mvT hZ (hw _ (List.mem_of_getElem? (i := 42) rfl))) (mvT hZ (hw _ (List.mem_of_getElem? (i := 43) rfl))) (notFace_of_selects (args := #[]) (mvT hZ (hw _ (List.mem_of_getElem? (i := 45) rfl)))) (mvT hZ (hw _ (List.mem_of_getElem? (i := 45) rfl))) (mvT hZ (hw _ (List.mem_of_getElem? (i := 44) rfl))) (by decide) (backOf (W := 0) (own_mplaces l Z a0 hw [] b230 (5 : Int32) T236.heap n0 Z238 Fp236) hZ (hw _ (List.mem_of_getElem? (i := 46) rfl)) (hw _ (List.mem_of_getElem? (i := 3) rfl)) (by decide) (by decide)) q240a q240c (g := (mkF m 223 #[.val (.int vw), .val (.int va), .val (.int vb), .val (.int vc), .val (.int vs), .val (.int vq), .val (.int vo), .val (.int ((vw &&& (2147483647 : Int32)) % (6 : Int32))), .val (.int (5 : Int32)), .val (.ref b230), .val (.long (own_key (5 : Int32) vs vq vo)), .second, .val (.long (((vs.toInt64) * (4294967296 : Int64)) + (vo.toInt64))), .second] [(.ref b230)])) rfl (by rw [hml]; rfl) (Steps.refl _) (argsL := []) (rest := []) (lenOf own_pd5 rfl) rfl (by show 2 * 0 + _ ≤ _; exact Nat.le_of_eq rfl) (hb hby at_223) (fun _ _ => ⟨rfl, e239, (by decide : 5 + 0 ≤ _), (by decide : 54 + 0 ≤ _)⟩)
            dsimp only [Pt.U, Pt.locs, Pt.cells, Pt.slots] at X240 l240 y240 z240 st240 hQ240
            subst l240 y240 z240
            obtain ⟨rfl, N240q, e240⟩ := hQ240
            have N240 := Fr.app N239 N240q
            refine OGo.on (fun t k => st240.trans k) ?_
            show OGo p e below s _ _ _ (T240.setTop (mkF m 226 #[.val (.int vw), .val (.int va), .val (.int vb), .val (.int vc), .val (.int vs), .val (.int vq), .val (.int vo), .val (.int ((vw &&& (2147483647 : Int32)) % (6 : Int32))), .val (.int (5 : Int32)), .val (.ref b230), .val (.long (own_key (5 : Int32) vs vq vo)), .second, .val (.long (((vs.toInt64) * (4294967296 : Int64)) + (vo.toInt64))), .second] [(.int (5 : Int32))]))
            refine OGo.on (fun t k => XS.iload X240.here hx rfl (hb hby at_226) rfl k) ?_
            show OGo p e below s _ _ _ (T240.setTop (mkF m 228 #[.val (.int vw), .val (.int va), .val (.int vb), .val (.int vc), .val (.int vs), .val (.int vq), .val (.int vo), .val (.int ((vw &&& (2147483647 : Int32)) % (6 : Int32))), .val (.int (5 : Int32)), .val (.ref b230), .val (.long (own_key (5 : Int32) vs vq vo)), .second, .val (.long (((vs.toInt64) * (4294967296 : Int64)) + (vo.toInt64))), .second] [(.int (5 : Int32)), (.int (5 : Int32))]))
            refine OGo.on (fun t k => XS.icmpNo X240.here hx rfl (hb hby at_228) rfl (teq (by decide)).2 k) ?_
            show OGo p e below s _ _ _ (T240.setTop (mkF m 231 #[.val (.int vw), .val (.int va), .val (.int vb), .val (.int vc), .val (.int vs), .val (.int vq), .val (.int vo), .val (.int ((vw &&& (2147483647 : Int32)) % (6 : Int32))), .val (.int (5 : Int32)), .val (.ref b230), .val (.long (own_key (5 : Int32) vs vq vo)), .second, .val (.long (((vs.toInt64) * (4294967296 : Int64)) + (vo.toInt64))), .second] []))
            refine OGo.on (fun t k => XS.iconst X240.here hx rfl (hb hby at_231) k) ?_
            show OGo p e below s _ _ _ (T240.setTop (mkF m 232 #[.val (.int vw), .val (.int va), .val (.int vb), .val (.int vc), .val (.int vs), .val (.int vq), .val (.int vo), .val (.int ((vw &&& (2147483647 : Int32)) % (6 : Int32))), .val (.int (5 : Int32)), .val (.ref b230), .val (.long (own_key (5 : Int32) vs vq vo)), .second, .val (.long (((vs.toInt64) * (4294967296 : Int64)) + (vo.toInt64))), .second] [(.int (1 : Int32))]))
            refine OGo.on (fun t k => XS.goto X240.here hx rfl (pc0 := 232) (pc' := 236) rfl (hb hby at_232) (by decide) (by decide) k) ?_
            show OGo p e below s _ _ _ (T240.setTop (mkF m 236 #[.val (.int vw), .val (.int va), .val (.int vb), .val (.int vc), .val (.int vs), .val (.int vq), .val (.int vo), .val (.int ((vw &&& (2147483647 : Int32)) % (6 : Int32))), .val (.int (5 : Int32)), .val (.ref b230), .val (.long (own_key (5 : Int32) vs vq vo)), .second, .val (.long (((vs.toInt64) * (4294967296 : Int64)) + (vo.toInt64))), .second] [(.int (1 : Int32))]))
            exact OGo.retN X240 hx (t := .boolean) hret hlk (by simp) (hb hby at_236) ⟨rfl, N240⟩ (by decide) (by decide)
          · refine OGo.on (fun t k => XS.icmpYes X0.here hx rfl (pc0 := 77) (pc' := 86) rfl (hb hby at_77) rfl (feq hc229).2 (by decide) (by decide) k) ?_
            show OGo p e below s _ _ _ (s₁.setTop (mkF m 86 #[.val (.int vw), .val (.int va), .val (.int vb), .val (.int vc), .val (.int vs), .val (.int vq), .val (.int vo), .val (.int ((vw &&& (2147483647 : Int32)) % (6 : Int32))), .unset, .unset, .unset, .unset, .unset, .unset] []))
            refine OGo.on (fun t k => XS.bipush X0.here hx rfl (hb hby at_86) k) ?_
            show OGo p e below s _ _ _ (s₁.setTop (mkF m 88 #[.val (.int vw), .val (.int va), .val (.int vb), .val (.int vc), .val (.int vs), .val (.int vq), .val (.int vo), .val (.int ((vw &&& (2147483647 : Int32)) % (6 : Int32))), .unset, .unset, .unset, .unset, .unset, .unset] [(.int (6 : Int32))]))
            refine OGo.on (fun t k => XS.istore X0.here hx rfl (hb hby at_88) rfl (l' := #[.val (.int vw), .val (.int va), .val (.int vb), .val (.int vc), .val (.int vs), .val (.int vq), .val (.int vo), .val (.int ((vw &&& (2147483647 : Int32)) % (6 : Int32))), .val (.int (6 : Int32)), .unset, .unset, .unset, .unset, .unset]) rfl k) ?_
            show OGo p e below s _ _ _ (s₁.setTop (mkF m 90 #[.val (.int vw), .val (.int va), .val (.int vb), .val (.int vc), .val (.int vs), .val (.int vq), .val (.int vo), .val (.int ((vw &&& (2147483647 : Int32)) % (6 : Int32))), .val (.int (6 : Int32)), .unset, .unset, .unset, .unset, .unset] []))
            obtain ⟨T241, h241, X241, e241, E241, A241, D241, -, st241⟩ := newO X0 hx hZ hown (hw _ (List.mem_of_getElem? (i := 1) rfl)) (hw _ (List.mem_of_getElem? (i := 2) rfl)) (hw _ (List.mem_of_getElem? (i := 3) rfl)) e0 (g := (mkF m 90 #[.val (.int vw), .val (.int va), .val (.int vb), .val (.int vc), .val (.int vs), .val (.int vq), .val (.int vo), .val (.int ((vw &&& (2147483647 : Int32)) % (6 : Int32))), .val (.int (6 : Int32)), .unset, .unset, .unset, .unset, .unset] [])) rfl (hb hby at_90) (by decide) (by decide)
            obtain ⟨b241, g241⟩ : ∃ z, z = h0.size := ⟨_, rfl⟩
            rw [← g241] at A241 D241 st241
            have ge242 : n0 ≤ b241 := Nat.le_trans Z0 (Nat.le_of_eq g241.symm)
            have Z243 : n0 ≤ h241.size := Nat.le_trans Z0 E241.1
            have f244 : Fld Z h241 b241 "org/surnia/graph/Chains" "newest" "Lorg/surnia/graph/LongIntMap;" .null := D241 (Or.inr (hw _ (List.mem_of_getElem? (i := 32) rfl))) (ty := (.object "org/surnia/graph/LongIntMap")) (by decide)
            have f245 : Fld Z h241 b241 "org/surnia/graph/Chains" "older" "[I" .null := D241 (Or.inl (hw _ (List.mem_of_getElem? (i := 34) rfl))) (ty := (.array .int)) (by decide)
            have f246 : Fld Z h241 b241 "org/surnia/graph/Chains" "places" "I" (.int (0 : Int32)) := D241 (Or.inr (hw _ (List.mem_of_getElem? (i := 36) rfl))) (ty := .int) (by decide)
            refine OGo.on st241 ?_
            show OGo p e below s _ _ _ (T241.setTop (mkF m 93 #[.val (.int vw), .val (.int va), .val (.int vb), .val (.int vc), .val (.int vs), .val (.int vq), .val (.int vo), .val (.int ((vw &&& (2147483647 : Int32)) % (6 : Int32))), .val (.int (6 : Int32)), .unset, .unset, .unset, .unset, .unset] [(.ref b241)]))
            refine OGo.on (fun t k => XS.dup X241.here hx rfl (hb hby at_93) rfl rfl k) ?_
            show OGo p e below s _ _ _ (T241.setTop (mkF m 94 #[.val (.int vw), .val (.int va), .val (.int vb), .val (.int vc), .val (.int vs), .val (.int vq), .val (.int vo), .val (.int ((vw &&& (2147483647 : Int32)) % (6 : Int32))), .val (.int (6 : Int32)), .unset, .unset, .unset, .unset, .unset] [(.ref b241), (.ref b241)]))
            refine OGo.on (fun t k => XS.iload X241.here hx rfl (hb hby at_94) rfl k) ?_
            show OGo p e below s _ _ _ (T241.setTop (mkF m 96 #[.val (.int vw), .val (.int va), .val (.int vb), .val (.int vc), .val (.int vs), .val (.int vq), .val (.int vo), .val (.int ((vw &&& (2147483647 : Int32)) % (6 : Int32))), .val (.int (6 : Int32)), .unset, .unset, .unset, .unset, .unset] [(.int (6 : Int32)), (.ref b241), (.ref b241)]))
            obtain ⟨_, _, ⟨T247, L247, k247, n247⟩, -, X247, ⟨Lc247, hQ247, l247, y247, z247⟩, st247⟩ := X241.specialBack hx (y := (⟨"org/surnia/graph/Chains", "<init>", "(I)V"⟩ : MethodName)) rfl hown (mvT hZ (hw _ (List.mem_of_getElem? (i := 4) rfl))) (mvT hZ (hw _ (List.mem_of_getElem? (i := 5) rfl))) (mvT hZ (hw _ (List.mem_of_getElem? (i := 6) rfl))) (by decide) (backOf (W := 1) (own_chinit l Z a0 hw [] b241 (6 : Int32) h241 n0 Z243 ge242 A241 f244 f245 f246) hZ (hw _ (List.mem_of_getElem? (i := 6) rfl)) (hw _ (List.mem_of_getElem? (i := 3) rfl)) (by decide) (by decide)) (g := (mkF m 96 #[.val (.int vw), .val (.int va), .val (.int vb), .val (.int vc), .val (.int vs), .val (.int vq), .val (.int vo), .val (.int ((vw &&& (2147483647 : Int32)) % (6 : Int32))), .val (.int (6 : Int32)), .unset, .unset, .unset, .unset, .unset] [(.int (6 : Int32)), (.ref b241), (.ref b241)])) rfl (by rw [hml]; rfl) (Steps.refl _) (a := b241) (argsL := [(.int (6 : Int32))]) (rest := [(.ref b241)]) (lenOf own_pd3 rfl) rfl (by show 2 * 0 + _ ≤ _; exact Nat.le_of_eq rfl) (hb hby at_96) (fun _ _ => ⟨rfl, e241, (by decide : 1 + 4 ≤ _), (by decide : 3 + 51 ≤ _)⟩)
            dsimp only [Pt.U, Pt.locs, Pt.cells, Pt.slots] at X247 l247 y247 z247 st247 hQ247
            subst l247 y247 z247
            obtain ⟨rfl, N247q, K247, Fp247⟩ := hQ247
            have N247 := Fr.app N0 N247q
            have f248 : Exa Z T247.heap b241 "org/surnia/graph/Chains" := A241.keep K247
            have Z249 : n0 ≤ T247.heap.size := Nat.le_trans Z243 K247.1
            have eh247 : T247.heap = T247.heap := rfl
            refine OGo.on (fun t k => st247.trans k) ?_
            show OGo p e below s _ _ _ (T247.setTop (mkF m 99 #[.val (.int vw), .val (.int va), .val (.int vb), .val (.int vc), .val (.int vs), .val (.int vq), .val (.int vo), .val (.int ((vw &&& (2147483647 : Int32)) % (6 : Int32))), .val (.int (6 : Int32)), .unset, .unset, .unset, .unset, .unset] [(.ref b241)]))
            refine OGo.on (fun t k => XS.astore X247.here hx rfl (hb hby at_99) rfl rfl (l' := #[.val (.int vw), .val (.int va), .val (.int vb), .val (.int vc), .val (.int vs), .val (.int vq), .val (.int vo), .val (.int ((vw &&& (2147483647 : Int32)) % (6 : Int32))), .val (.int (6 : Int32)), .val (.ref b241), .unset, .unset, .unset, .unset]) rfl k) ?_
            show OGo p e below s _ _ _ (T247.setTop (mkF m 101 #[.val (.int vw), .val (.int va), .val (.int vb), .val (.int vc), .val (.int vs), .val (.int vq), .val (.int vo), .val (.int ((vw &&& (2147483647 : Int32)) % (6 : Int32))), .val (.int (6 : Int32)), .val (.ref b241), .unset, .unset, .unset, .unset] []))
            refine OGo.on (fun t k => XS.aload X247.here hx rfl (hb hby at_101) rfl rfl k) ?_
            show OGo p e below s _ _ _ (T247.setTop (mkF m 103 #[.val (.int vw), .val (.int va), .val (.int vb), .val (.int vc), .val (.int vs), .val (.int vq), .val (.int vo), .val (.int ((vw &&& (2147483647 : Int32)) % (6 : Int32))), .val (.int (6 : Int32)), .val (.ref b241), .unset, .unset, .unset, .unset] [(.ref b241)]))
            refine OGo.on (fun t k => XS.iload X247.here hx rfl (hb hby at_103) rfl k) ?_
            show OGo p e below s _ _ _ (T247.setTop (mkF m 105 #[.val (.int vw), .val (.int va), .val (.int vb), .val (.int vc), .val (.int vs), .val (.int vq), .val (.int vo), .val (.int ((vw &&& (2147483647 : Int32)) % (6 : Int32))), .val (.int (6 : Int32)), .val (.ref b241), .unset, .unset, .unset, .unset] [(.int vs), (.ref b241)]))
            refine OGo.on (fun t k => XS.iload X247.here hx rfl (hb hby at_105) rfl k) ?_
            show OGo p e below s _ _ _ (T247.setTop (mkF m 107 #[.val (.int vw), .val (.int va), .val (.int vb), .val (.int vc), .val (.int vs), .val (.int vq), .val (.int vo), .val (.int ((vw &&& (2147483647 : Int32)) % (6 : Int32))), .val (.int (6 : Int32)), .val (.ref b241), .unset, .unset, .unset, .unset] [(.int vq), (.int vs), (.ref b241)]))
            refine OGo.on (fun t k => XS.iload X247.here hx rfl (hb hby at_107) rfl k) ?_
            show OGo p e below s _ _ _ (T247.setTop (mkF m 109 #[.val (.int vw), .val (.int va), .val (.int vb), .val (.int vc), .val (.int vs), .val (.int vq), .val (.int vo), .val (.int ((vw &&& (2147483647 : Int32)) % (6 : Int32))), .val (.int (6 : Int32)), .val (.ref b241), .unset, .unset, .unset, .unset] [(.int vo), (.int vq), (.int vs), (.ref b241)]))
            obtain ⟨cq250, kq250, q250a, q250b, q250c⟩ := isOf hZ eh247 f248
            obtain ⟨_, _, ⟨T250, L250, k250, n250⟩, -, X250, ⟨Lc250, hQ250, l250, y250, z250⟩, st250⟩ := X247.virtualBack hx (y := (⟨"org/surnia/graph/Chains", "key", "(III)J"⟩ : MethodName)) (z := (⟨"org/surnia/graph/Chains", "key", "(III)J"⟩ : MethodName)) hown (mvT hZ (hw _ (List.mem_of_getElem? (i := 37) rfl))) (mvT hZ (hw _ (List.mem_of_getElem? (i := 38) rfl))) (notFace_of_selects (args := #[]) (mvT hZ (hw _ (List.mem_of_getElem? (i := 40) rfl)))) (mvT hZ (hw _ (List.mem_of_getElem? (i := 40) rfl))) (mvT hZ (hw _ (List.mem_of_getElem? (i := 39) rfl))) (by decide) (backOf (W := 0) (own_mkey l Z a0 hw [] b241 vs vq vo (6 : Int32) T247.heap n0 Z249 Fp247) hZ (hw _ (List.mem_of_getElem? (i := 41) rfl)) (hw _ (List.mem_of_getElem? (i := 3) rfl)) (by decide) (by decide)) q250a q250c (g := (mkF m 109 #[.val (.int vw), .val (.int va), .val (.int vb), .val (.int vc), .val (.int vs), .val (.int vq), .val (.int vo), .val (.int ((vw &&& (2147483647 : Int32)) % (6 : Int32))), .val (.int (6 : Int32)), .val (.ref b241), .unset, .unset, .unset, .unset] [(.int vo), (.int vq), (.int vs), (.ref b241)])) rfl (by rw [hml]; rfl) (Steps.refl _) (argsL := [(.int vs), (.int vq), (.int vo)]) (rest := []) (lenOf own_pd4 rfl) rfl (by show 2 * 0 + _ ≤ _; exact Nat.le_of_eq rfl) (hb hby at_109) (fun _ _ => ⟨rfl, eh247, (by decide : 5 + 0 ≤ _), (by decide : 54 + 0 ≤ _)⟩)
            dsimp only [Pt.U, Pt.locs, Pt.cells, Pt.slots] at X250 l250 y250 z250 st250 hQ250
            subst l250 y250 z250
            obtain ⟨rfl, N250q, e250⟩ := hQ250
            have N250 := Fr.app N247 N250q
            refine OGo.on (fun t k => st250.trans k) ?_
            show OGo p e below s _ _ _ (T250.setTop (mkF m 112 #[.val (.int vw), .val (.int va), .val (.int vb), .val (.int vc), .val (.int vs), .val (.int vq), .val (.int vo), .val (.int ((vw &&& (2147483647 : Int32)) % (6 : Int32))), .val (.int (6 : Int32)), .val (.ref b241), .unset, .unset, .unset, .unset] [(.long (own_key (6 : Int32) vs vq vo))]))
            refine OGo.on (fun t k => XS.lstore X250.here hx rfl (hb hby at_112) rfl (l' := #[.val (.int vw), .val (.int va), .val (.int vb), .val (.int vc), .val (.int vs), .val (.int vq), .val (.int vo), .val (.int ((vw &&& (2147483647 : Int32)) % (6 : Int32))), .val (.int (6 : Int32)), .val (.ref b241), .val (.long (own_key (6 : Int32) vs vq vo)), .second, .unset, .unset]) rfl k) ?_
            show OGo p e below s _ _ _ (T250.setTop (mkF m 114 #[.val (.int vw), .val (.int va), .val (.int vb), .val (.int vc), .val (.int vs), .val (.int vq), .val (.int vo), .val (.int ((vw &&& (2147483647 : Int32)) % (6 : Int32))), .val (.int (6 : Int32)), .val (.ref b241), .val (.long (own_key (6 : Int32) vs vq vo)), .second, .unset, .unset] []))
            refine OGo.on (fun t k => XS.iload X250.here hx rfl (hb hby at_114) rfl k) ?_
            show OGo p e below s _ _ _ (T250.setTop (mkF m 116 #[.val (.int vw), .val (.int va), .val (.int vb), .val (.int vc), .val (.int vs), .val (.int vq), .val (.int vo), .val (.int ((vw &&& (2147483647 : Int32)) % (6 : Int32))), .val (.int (6 : Int32)), .val (.ref b241), .val (.long (own_key (6 : Int32) vs vq vo)), .second, .unset, .unset] [(.int (6 : Int32))]))
            refine OGo.on (fun t k => XS.iconst X250.here hx rfl (hb hby at_116) k) ?_
            show OGo p e below s _ _ _ (T250.setTop (mkF m 117 #[.val (.int vw), .val (.int va), .val (.int vb), .val (.int vc), .val (.int vs), .val (.int vq), .val (.int vo), .val (.int ((vw &&& (2147483647 : Int32)) % (6 : Int32))), .val (.int (6 : Int32)), .val (.ref b241), .val (.long (own_key (6 : Int32) vs vq vo)), .second, .unset, .unset] [(.int (1 : Int32)), (.int (6 : Int32))]))
            refine OGo.on (fun t k => XS.icmpYes X250.here hx rfl (pc0 := 117) (pc' := 128) rfl (hb hby at_117) rfl (feq (by decide)).2 (by decide) (by decide) k) ?_
            show OGo p e below s _ _ _ (T250.setTop (mkF m 128 #[.val (.int vw), .val (.int va), .val (.int vb), .val (.int vc), .val (.int vs), .val (.int vq), .val (.int vo), .val (.int ((vw &&& (2147483647 : Int32)) % (6 : Int32))), .val (.int (6 : Int32)), .val (.ref b241), .val (.long (own_key (6 : Int32) vs vq vo)), .second, .unset, .unset] []))
            refine OGo.on (fun t k => XS.iload X250.here hx rfl (hb hby at_128) rfl k) ?_
            show OGo p e below s _ _ _ (T250.setTop (mkF m 130 #[.val (.int vw), .val (.int va), .val (.int vb), .val (.int vc), .val (.int vs), .val (.int vq), .val (.int vo), .val (.int ((vw &&& (2147483647 : Int32)) % (6 : Int32))), .val (.int (6 : Int32)), .val (.ref b241), .val (.long (own_key (6 : Int32) vs vq vo)), .second, .unset, .unset] [(.int (6 : Int32))]))
            refine OGo.on (fun t k => XS.iconst X250.here hx rfl (hb hby at_130) k) ?_
            show OGo p e below s _ _ _ (T250.setTop (mkF m 131 #[.val (.int vw), .val (.int va), .val (.int vb), .val (.int vc), .val (.int vs), .val (.int vq), .val (.int vo), .val (.int ((vw &&& (2147483647 : Int32)) % (6 : Int32))), .val (.int (6 : Int32)), .val (.ref b241), .val (.long (own_key (6 : Int32) vs vq vo)), .second, .unset, .unset] [(.int (2 : Int32)), (.int (6 : Int32))]))
            refine OGo.on (fun t k => XS.icmpYes X250.here hx rfl (pc0 := 131) (pc' := 142) rfl (hb hby at_131) rfl (feq (by decide)).2 (by decide) (by decide) k) ?_
            show OGo p e below s _ _ _ (T250.setTop (mkF m 142 #[.val (.int vw), .val (.int va), .val (.int vb), .val (.int vc), .val (.int vs), .val (.int vq), .val (.int vo), .val (.int ((vw &&& (2147483647 : Int32)) % (6 : Int32))), .val (.int (6 : Int32)), .val (.ref b241), .val (.long (own_key (6 : Int32) vs vq vo)), .second, .unset, .unset] []))
            refine OGo.on (fun t k => XS.iload X250.here hx rfl (hb hby at_142) rfl k) ?_
            show OGo p e below s _ _ _ (T250.setTop (mkF m 144 #[.val (.int vw), .val (.int va), .val (.int vb), .val (.int vc), .val (.int vs), .val (.int vq), .val (.int vo), .val (.int ((vw &&& (2147483647 : Int32)) % (6 : Int32))), .val (.int (6 : Int32)), .val (.ref b241), .val (.long (own_key (6 : Int32) vs vq vo)), .second, .unset, .unset] [(.int (6 : Int32))]))
            refine OGo.on (fun t k => XS.iconst X250.here hx rfl (hb hby at_144) k) ?_
            show OGo p e below s _ _ _ (T250.setTop (mkF m 145 #[.val (.int vw), .val (.int va), .val (.int vb), .val (.int vc), .val (.int vs), .val (.int vq), .val (.int vo), .val (.int ((vw &&& (2147483647 : Int32)) % (6 : Int32))), .val (.int (6 : Int32)), .val (.ref b241), .val (.long (own_key (6 : Int32) vs vq vo)), .second, .unset, .unset] [(.int (4 : Int32)), (.int (6 : Int32))]))
            refine OGo.on (fun t k => XS.icmpYes X250.here hx rfl (pc0 := 145) (pc' := 156) rfl (hb hby at_145) rfl (feq (by decide)).2 (by decide) (by decide) k) ?_
            show OGo p e below s _ _ _ (T250.setTop (mkF m 156 #[.val (.int vw), .val (.int va), .val (.int vb), .val (.int vc), .val (.int vs), .val (.int vq), .val (.int vo), .val (.int ((vw &&& (2147483647 : Int32)) % (6 : Int32))), .val (.int (6 : Int32)), .val (.ref b241), .val (.long (own_key (6 : Int32) vs vq vo)), .second, .unset, .unset] []))
            refine OGo.on (fun t k => XS.iload X250.here hx rfl (hb hby at_156) rfl k) ?_
            show OGo p e below s _ _ _ (T250.setTop (mkF m 158 #[.val (.int vw), .val (.int va), .val (.int vb), .val (.int vc), .val (.int vs), .val (.int vq), .val (.int vo), .val (.int ((vw &&& (2147483647 : Int32)) % (6 : Int32))), .val (.int (6 : Int32)), .val (.ref b241), .val (.long (own_key (6 : Int32) vs vq vo)), .second, .unset, .unset] [(.int (6 : Int32))]))
            refine OGo.on (fun t k => XS.iconst X250.here hx rfl (hb hby at_158) k) ?_
            show OGo p e below s _ _ _ (T250.setTop (mkF m 159 #[.val (.int vw), .val (.int va), .val (.int vb), .val (.int vc), .val (.int vs), .val (.int vq), .val (.int vo), .val (.int ((vw &&& (2147483647 : Int32)) % (6 : Int32))), .val (.int (6 : Int32)), .val (.ref b241), .val (.long (own_key (6 : Int32) vs vq vo)), .second, .unset, .unset] [(.int (3 : Int32)), (.int (6 : Int32))]))
            refine OGo.on (fun t k => XS.icmpYes X250.here hx rfl (pc0 := 159) (pc' := 178) rfl (hb hby at_159) rfl (feq (by decide)).2 (by decide) (by decide) k) ?_
            show OGo p e below s _ _ _ (T250.setTop (mkF m 178 #[.val (.int vw), .val (.int va), .val (.int vb), .val (.int vc), .val (.int vs), .val (.int vq), .val (.int vo), .val (.int ((vw &&& (2147483647 : Int32)) % (6 : Int32))), .val (.int (6 : Int32)), .val (.ref b241), .val (.long (own_key (6 : Int32) vs vq vo)), .second, .unset, .unset] []))
            refine OGo.on (fun t k => XS.iload X250.here hx rfl (hb hby at_178) rfl k) ?_
            show OGo p e below s _ _ _ (T250.setTop (mkF m 180 #[.val (.int vw), .val (.int va), .val (.int vb), .val (.int vc), .val (.int vs), .val (.int vq), .val (.int vo), .val (.int ((vw &&& (2147483647 : Int32)) % (6 : Int32))), .val (.int (6 : Int32)), .val (.ref b241), .val (.long (own_key (6 : Int32) vs vq vo)), .second, .unset, .unset] [(.int (6 : Int32))]))
            refine OGo.on (fun t k => XS.iconst X250.here hx rfl (hb hby at_180) k) ?_
            show OGo p e below s _ _ _ (T250.setTop (mkF m 181 #[.val (.int vw), .val (.int va), .val (.int vb), .val (.int vc), .val (.int vs), .val (.int vq), .val (.int vo), .val (.int ((vw &&& (2147483647 : Int32)) % (6 : Int32))), .val (.int (6 : Int32)), .val (.ref b241), .val (.long (own_key (6 : Int32) vs vq vo)), .second, .unset, .unset] [(.int (5 : Int32)), (.int (6 : Int32))]))
            refine OGo.on (fun t k => XS.icmpYes X250.here hx rfl (pc0 := 181) (pc' := 200) rfl (hb hby at_181) rfl (feq (by decide)).2 (by decide) (by decide) k) ?_
            show OGo p e below s _ _ _ (T250.setTop (mkF m 200 #[.val (.int vw), .val (.int va), .val (.int vb), .val (.int vc), .val (.int vs), .val (.int vq), .val (.int vo), .val (.int ((vw &&& (2147483647 : Int32)) % (6 : Int32))), .val (.int (6 : Int32)), .val (.ref b241), .val (.long (own_key (6 : Int32) vs vq vo)), .second, .unset, .unset] []))
            refine OGo.on (fun t k => XS.iload X250.here hx rfl (hb hby at_200) rfl k) ?_
            show OGo p e below s _ _ _ (T250.setTop (mkF m 202 #[.val (.int vw), .val (.int va), .val (.int vb), .val (.int vc), .val (.int vs), .val (.int vq), .val (.int vo), .val (.int ((vw &&& (2147483647 : Int32)) % (6 : Int32))), .val (.int (6 : Int32)), .val (.ref b241), .val (.long (own_key (6 : Int32) vs vq vo)), .second, .unset, .unset] [(.int vq)]))
            refine OGo.on (fun t k => XS.i2l X250.here hx rfl (hb hby at_202) rfl k) ?_
            show OGo p e below s _ _ _ (T250.setTop (mkF m 203 #[.val (.int vw), .val (.int va), .val (.int vb), .val (.int vc), .val (.int vs), .val (.int vq), .val (.int vo), .val (.int ((vw &&& (2147483647 : Int32)) % (6 : Int32))), .val (.int (6 : Int32)), .val (.ref b241), .val (.long (own_key (6 : Int32) vs vq vo)), .second, .unset, .unset] [(.long (vq.toInt64))]))
            refine OGo.on (fun t k => X250.ldc2J hx hown (mvT hZ (hw _ (List.mem_of_getElem? (i := 47) rfl))) (g := (mkF m 203 #[.val (.int vw), .val (.int va), .val (.int vb), .val (.int vc), .val (.int vs), .val (.int vq), .val (.int vo), .val (.int ((vw &&& (2147483647 : Int32)) % (6 : Int32))), .val (.int (6 : Int32)), .val (.ref b241), .val (.long (own_key (6 : Int32) vs vq vo)), .second, .unset, .unset] [(.long (vq.toInt64))])) rfl (hb hby at_203) k) ?_
            show OGo p e below s _ _ _ (T250.setTop (mkF m 206 #[.val (.int vw), .val (.int va), .val (.int vb), .val (.int vc), .val (.int vs), .val (.int vq), .val (.int vo), .val (.int ((vw &&& (2147483647 : Int32)) % (6 : Int32))), .val (.int (6 : Int32)), .val (.ref b241), .val (.long (own_key (6 : Int32) vs vq vo)), .second, .unset, .unset] [(.long (4294967296 : Int64)), (.long (vq.toInt64))]))
            refine OGo.on (fun t k => XS.lmul X250.here hx rfl (hb hby at_206) rfl k) ?_
            show OGo p e below s _ _ _ (T250.setTop (mkF m 207 #[.val (.int vw), .val (.int va), .val (.int vb), .val (.int vc), .val (.int vs), .val (.int vq), .val (.int vo), .val (.int ((vw &&& (2147483647 : Int32)) % (6 : Int32))), .val (.int (6 : Int32)), .val (.ref b241), .val (.long (own_key (6 : Int32) vs vq vo)), .second, .unset, .unset] [(.long ((vq.toInt64) * (4294967296 : Int64)))]))
            refine OGo.on (fun t k => XS.iload X250.here hx rfl (hb hby at_207) rfl k) ?_
            show OGo p e below s _ _ _ (T250.setTop (mkF m 209 #[.val (.int vw), .val (.int va), .val (.int vb), .val (.int vc), .val (.int vs), .val (.int vq), .val (.int vo), .val (.int ((vw &&& (2147483647 : Int32)) % (6 : Int32))), .val (.int (6 : Int32)), .val (.ref b241), .val (.long (own_key (6 : Int32) vs vq vo)), .second, .unset, .unset] [(.int vo), (.long ((vq.toInt64) * (4294967296 : Int64)))]))
            refine OGo.on (fun t k => XS.i2l X250.here hx rfl (hb hby at_209) rfl k) ?_
            show OGo p e below s _ _ _ (T250.setTop (mkF m 210 #[.val (.int vw), .val (.int va), .val (.int vb), .val (.int vc), .val (.int vs), .val (.int vq), .val (.int vo), .val (.int ((vw &&& (2147483647 : Int32)) % (6 : Int32))), .val (.int (6 : Int32)), .val (.ref b241), .val (.long (own_key (6 : Int32) vs vq vo)), .second, .unset, .unset] [(.long (vo.toInt64)), (.long ((vq.toInt64) * (4294967296 : Int64)))]))
            refine OGo.on (fun t k => XS.ladd X250.here hx rfl (hb hby at_210) rfl k) ?_
            show OGo p e below s _ _ _ (T250.setTop (mkF m 211 #[.val (.int vw), .val (.int va), .val (.int vb), .val (.int vc), .val (.int vs), .val (.int vq), .val (.int vo), .val (.int ((vw &&& (2147483647 : Int32)) % (6 : Int32))), .val (.int (6 : Int32)), .val (.ref b241), .val (.long (own_key (6 : Int32) vs vq vo)), .second, .unset, .unset] [(.long (((vq.toInt64) * (4294967296 : Int64)) + (vo.toInt64)))]))
            refine OGo.on (fun t k => XS.lstore X250.here hx rfl (hb hby at_211) rfl (l' := #[.val (.int vw), .val (.int va), .val (.int vb), .val (.int vc), .val (.int vs), .val (.int vq), .val (.int vo), .val (.int ((vw &&& (2147483647 : Int32)) % (6 : Int32))), .val (.int (6 : Int32)), .val (.ref b241), .val (.long (own_key (6 : Int32) vs vq vo)), .second, .val (.long (((vq.toInt64) * (4294967296 : Int64)) + (vo.toInt64))), .second]) rfl k) ?_
            show OGo p e below s _ _ _ (T250.setTop (mkF m 213 #[.val (.int vw), .val (.int va), .val (.int vb), .val (.int vc), .val (.int vs), .val (.int vq), .val (.int vo), .val (.int ((vw &&& (2147483647 : Int32)) % (6 : Int32))), .val (.int (6 : Int32)), .val (.ref b241), .val (.long (own_key (6 : Int32) vs vq vo)), .second, .val (.long (((vq.toInt64) * (4294967296 : Int64)) + (vo.toInt64))), .second] []))
            refine OGo.on (fun t k => XS.lload X250.here hx rfl (hb hby at_213) rfl k) ?_
            show OGo p e below s _ _ _ (T250.setTop (mkF m 215 #[.val (.int vw), .val (.int va), .val (.int vb), .val (.int vc), .val (.int vs), .val (.int vq), .val (.int vo), .val (.int ((vw &&& (2147483647 : Int32)) % (6 : Int32))), .val (.int (6 : Int32)), .val (.ref b241), .val (.long (own_key (6 : Int32) vs vq vo)), .second, .val (.long (((vq.toInt64) * (4294967296 : Int64)) + (vo.toInt64))), .second] [(.long (own_key (6 : Int32) vs vq vo))]))
            refine OGo.on (fun t k => XS.lload X250.here hx rfl (hb hby at_215) rfl k) ?_
            show OGo p e below s _ _ _ (T250.setTop (mkF m 217 #[.val (.int vw), .val (.int va), .val (.int vb), .val (.int vc), .val (.int vs), .val (.int vq), .val (.int vo), .val (.int ((vw &&& (2147483647 : Int32)) % (6 : Int32))), .val (.int (6 : Int32)), .val (.ref b241), .val (.long (own_key (6 : Int32) vs vq vo)), .second, .val (.long (((vq.toInt64) * (4294967296 : Int64)) + (vo.toInt64))), .second] [(.long (((vq.toInt64) * (4294967296 : Int64)) + (vo.toInt64))), (.long (own_key (6 : Int32) vs vq vo))]))
            refine OGo.on (fun t k => XS.lcmp X250.here hx rfl (hb hby at_217) rfl k) ?_
            show OGo p e below s _ _ _ (T250.setTop (mkF m 218 #[.val (.int vw), .val (.int va), .val (.int vb), .val (.int vc), .val (.int vs), .val (.int vq), .val (.int vo), .val (.int ((vw &&& (2147483647 : Int32)) % (6 : Int32))), .val (.int (6 : Int32)), .val (.ref b241), .val (.long (own_key (6 : Int32) vs vq vo)), .second, .val (.long (((vq.toInt64) * (4294967296 : Int64)) + (vo.toInt64))), .second] [(.int (lcmpW (own_key (6 : Int32) vs vq vo) (((vq.toInt64) * (4294967296 : Int64)) + (vo.toInt64))))]))
            refine OGo.on (fun t k => XS.ifNo X250.here hx rfl (hb hby at_218) rfl (lc_teq (own_p6 vs hvq hvo)).2 k) ?_
            show OGo p e below s _ _ _ (T250.setTop (mkF m 221 #[.val (.int vw), .val (.int va), .val (.int vb), .val (.int vc), .val (.int vs), .val (.int vq), .val (.int vo), .val (.int ((vw &&& (2147483647 : Int32)) % (6 : Int32))), .val (.int (6 : Int32)), .val (.ref b241), .val (.long (own_key (6 : Int32) vs vq vo)), .second, .val (.long (((vq.toInt64) * (4294967296 : Int64)) + (vo.toInt64))), .second] []))
            refine OGo.on (fun t k => XS.aload X250.here hx rfl (hb hby at_221) rfl rfl k) ?_
            show OGo p e below s _ _ _ (T250.setTop (mkF m 223 #[.val (.int vw), .val (.int va), .val (.int vb), .val (.int vc), .val (.int vs), .val (.int vq), .val (.int vo), .val (.int ((vw &&& (2147483647 : Int32)) % (6 : Int32))), .val (.int (6 : Int32)), .val (.ref b241), .val (.long (own_key (6 : Int32) vs vq vo)), .second, .val (.long (((vq.toInt64) * (4294967296 : Int64)) + (vo.toInt64))), .second] [(.ref b241)]))
            obtain ⟨cq251, kq251, q251a, q251b, q251c⟩ := isOf hZ e250 f248
            obtain ⟨_, _, ⟨T251, L251, k251, n251⟩, -, X251, ⟨Lc251, hQ251, l251, y251, z251⟩, st251⟩ := X250.virtualBack hx (y := (⟨"org/surnia/graph/Chains", "places", "()I"⟩ : MethodName)) (z := (⟨"org/surnia/graph/Chains", "places", "()I"⟩ : MethodName)) hown (mvT hZ (hw _ (List.mem_of_getElem? (i := 42) rfl))) (mvT hZ (hw _ (List.mem_of_getElem? (i := 43) rfl))) (notFace_of_selects (args := #[]) (mvT hZ (hw _ (List.mem_of_getElem? (i := 45) rfl)))) (mvT hZ (hw _ (List.mem_of_getElem? (i := 45) rfl))) (mvT hZ (hw _ (List.mem_of_getElem? (i := 44) rfl))) (by decide) (backOf (W := 0) (own_mplaces l Z a0 hw [] b241 (6 : Int32) T247.heap n0 Z249 Fp247) hZ (hw _ (List.mem_of_getElem? (i := 46) rfl)) (hw _ (List.mem_of_getElem? (i := 3) rfl)) (by decide) (by decide)) q251a q251c (g := (mkF m 223 #[.val (.int vw), .val (.int va), .val (.int vb), .val (.int vc), .val (.int vs), .val (.int vq), .val (.int vo), .val (.int ((vw &&& (2147483647 : Int32)) % (6 : Int32))), .val (.int (6 : Int32)), .val (.ref b241), .val (.long (own_key (6 : Int32) vs vq vo)), .second, .val (.long (((vq.toInt64) * (4294967296 : Int64)) + (vo.toInt64))), .second] [(.ref b241)])) rfl (by rw [hml]; rfl) (Steps.refl _) (argsL := []) (rest := []) (lenOf own_pd5 rfl) rfl (by show 2 * 0 + _ ≤ _; exact Nat.le_of_eq rfl) (hb hby at_223) (fun _ _ => ⟨rfl, e250, (by decide : 5 + 0 ≤ _), (by decide : 54 + 0 ≤ _)⟩)
            dsimp only [Pt.U, Pt.locs, Pt.cells, Pt.slots] at X251 l251 y251 z251 st251 hQ251
            subst l251 y251 z251
            obtain ⟨rfl, N251q, e251⟩ := hQ251
            have N251 := Fr.app N250 N251q
            refine OGo.on (fun t k => st251.trans k) ?_
            show OGo p e below s _ _ _ (T251.setTop (mkF m 226 #[.val (.int vw), .val (.int va), .val (.int vb), .val (.int vc), .val (.int vs), .val (.int vq), .val (.int vo), .val (.int ((vw &&& (2147483647 : Int32)) % (6 : Int32))), .val (.int (6 : Int32)), .val (.ref b241), .val (.long (own_key (6 : Int32) vs vq vo)), .second, .val (.long (((vq.toInt64) * (4294967296 : Int64)) + (vo.toInt64))), .second] [(.int (6 : Int32))]))
            refine OGo.on (fun t k => XS.iload X251.here hx rfl (hb hby at_226) rfl k) ?_
            show OGo p e below s _ _ _ (T251.setTop (mkF m 228 #[.val (.int vw), .val (.int va), .val (.int vb), .val (.int vc), .val (.int vs), .val (.int vq), .val (.int vo), .val (.int ((vw &&& (2147483647 : Int32)) % (6 : Int32))), .val (.int (6 : Int32)), .val (.ref b241), .val (.long (own_key (6 : Int32) vs vq vo)), .second, .val (.long (((vq.toInt64) * (4294967296 : Int64)) + (vo.toInt64))), .second] [(.int (6 : Int32)), (.int (6 : Int32))]))
            refine OGo.on (fun t k => XS.icmpNo X251.here hx rfl (hb hby at_228) rfl (teq (by decide)).2 k) ?_
            show OGo p e below s _ _ _ (T251.setTop (mkF m 231 #[.val (.int vw), .val (.int va), .val (.int vb), .val (.int vc), .val (.int vs), .val (.int vq), .val (.int vo), .val (.int ((vw &&& (2147483647 : Int32)) % (6 : Int32))), .val (.int (6 : Int32)), .val (.ref b241), .val (.long (own_key (6 : Int32) vs vq vo)), .second, .val (.long (((vq.toInt64) * (4294967296 : Int64)) + (vo.toInt64))), .second] []))
            refine OGo.on (fun t k => XS.iconst X251.here hx rfl (hb hby at_231) k) ?_
            show OGo p e below s _ _ _ (T251.setTop (mkF m 232 #[.val (.int vw), .val (.int va), .val (.int vb), .val (.int vc), .val (.int vs), .val (.int vq), .val (.int vo), .val (.int ((vw &&& (2147483647 : Int32)) % (6 : Int32))), .val (.int (6 : Int32)), .val (.ref b241), .val (.long (own_key (6 : Int32) vs vq vo)), .second, .val (.long (((vq.toInt64) * (4294967296 : Int64)) + (vo.toInt64))), .second] [(.int (1 : Int32))]))
            refine OGo.on (fun t k => XS.goto X251.here hx rfl (pc0 := 232) (pc' := 236) rfl (hb hby at_232) (by decide) (by decide) k) ?_
            show OGo p e below s _ _ _ (T251.setTop (mkF m 236 #[.val (.int vw), .val (.int va), .val (.int vb), .val (.int vc), .val (.int vs), .val (.int vq), .val (.int vo), .val (.int ((vw &&& (2147483647 : Int32)) % (6 : Int32))), .val (.int (6 : Int32)), .val (.ref b241), .val (.long (own_key (6 : Int32) vs vq vo)), .second, .val (.long (((vq.toInt64) * (4294967296 : Int64)) + (vo.toInt64))), .second] [(.int (1 : Int32))]))
            exact OGo.retN X251 hx (t := .boolean) hret hlk (by simp) (hb hby at_236) ⟨rfl, N251⟩ (by decide) (by decide)
set_option maxRecDepth 65536 in
set_option maxHeartbeats 40000000 in
theorem comes_1 {Post : Tables → Env → Array Value → State → Outcome → State → Prop} (hpost : ∀ tb e args s v u, (limb_1_1.after args s (.returned v) u = true ∧ limb_1_2.after args s (.returned v) u = true ∧ True) → FrameEnd s (.returned v) u (Jvm.fieldLocs frame_1_writes args s ++ Jvm.arrayLocs frame_1_arrays args s ++ Jvm.staticLocs frame_1_statics s) 24 192 → Post tb e args s (.returned v) u) :
    ArmFor flags0 classFile x code maxLocals ret World_1 tables_1 room_1 Calls_1 rest_1 Pre_1 Post := by
  intro l hfl _ _ p e ha hc hk s m args below hf hA hF happ hP
  obtain ⟨hcalls, hrest, hpre⟩ := hP
  obtain ⟨-, -, -, hnamed, -, -, -, hat⟩ := (Spec.applies_iff hf).mp happ
  obtain ⟨hg, hn⟩ := and_e (Cond.before_iff.mp (show (Jvm.Cond.and given_1 narrow_1).before args s = true from hpre))
  obtain ⟨gg252, gg253⟩ := and_e hg
  obtain ⟨gg254, gg255⟩ := and_e gg253
  obtain ⟨gg256, gg257⟩ := and_e gg255
  obtain ⟨gg258, gg259⟩ := and_e gg257
  obtain ⟨w0, w1, w2, w3, rfl⟩ : ∃ w0 w1 w2 w3 : Value, args = #[w0, w1, w2, w3] := by
    have hs : args.size = 4 := by simpa [Cond.value, given_1] using gg252
    obtain ⟨L⟩ := args
    match L, hs with
    | [w0, w1, w2, w3], _ => exact ⟨w0, w1, w2, w3, rfl⟩
  have hw := fun d (hd : d ∈ tables_1) => atoms_spec (ws := Jvm.Cond.code x code maxLocals ret :: tables_1) hat d (List.mem_cons_of_mem _ hd)
  obtain ⟨i0, ei0⟩ := is_v gg254
  obtain rfl : w0 = (.int i0) := Option.some.inj ei0
  obtain ⟨i1, ei1⟩ := is_v gg256
  obtain rfl : w1 = (.int i1) := Option.some.inj ei1
  obtain ⟨i2, ei2⟩ := is_v gg258
  obtain rfl : w2 = (.int i2) := Option.some.inj ei2
  obtain ⟨i3, ei3⟩ := is_v gg259
  obtain rfl : w3 = (.int i3) := Option.some.inj ei3
  obtain ⟨n, o, h1, h2, h3, _, L, rfl, ⟨rfl, N⟩, hq⟩ := own_law l s _ hw tables_1 i0 i1 i2 i3 s.heap s.heap.size (Nat.le_refl _)  p e ha hc hk s m _ below hf ((Spec.applies_iff_loose hf).mp happ).1 ⟨rfl, State.Warmed39.refl s, rfl⟩ trivial
  refine ⟨n, _, h1, h2, h3, hpost _ _ _ _ _ _ ⟨Cond.after_iff.mpr rfl, Cond.after_iff.mpr (eq_i res_at (Term.int_eval (1)) rfl), trivial⟩ ⟨hq.1, hq.2.1, (hq.2.2.sift fun y hy => Or.inr (N y hy)).mono (by decide) (by decide)⟩⟩
theorem main_1_1 : Claimed_1_1 := comes_1 fun _ _ _ _ _ _ h hF => ⟨h.1, hF⟩
theorem main_1_2 : Claimed_1_2 := comes_1 fun _ _ _ _ _ _ h hF => ⟨h.2.1, hF⟩
end Jvm.Pilot.@@N@@
namespace Jvm.Pilot.@@N@@
open Jvm Jvm.ClassFile Sem Op Lib Jvm.Free Jvm.Stand Jvm.Pilot.@@N@@.Jvm.D
/-! MADE BY PROGRAM (witnessworld.py) out of the Statement's table words and the real class files: 13 classes; the members and pool entries that the words name. The judged class is class 1, her method 1. -/
namespace start1
open Jvm.ClassFile
def u (s : String) : CpInfo := .utf8 (stringToUtf16 s)
/-- a pool by its gaps: so many unusable entries, then the entry; so many at the end -/
def gap : Nat → List CpInfo → List CpInfo
  | 0, r => r
  | n + 1, r => .unusable :: gap n r
def poolList (es : List (Nat × CpInfo)) (last : Nat) : List CpInfo := es.foldr (fun e r => gap e.1 (e.2 :: r)) (gap last [])
def pool (es : List (Nat × CpInfo)) (last : Nat) : Array CpInfo := ⟨poolList es last⟩
def fileOf (pool : Array CpInfo) (this : Nat) (attrs : Array Attribute := #[]) (ms : Array MethodInfo := #[]) (fl : Nat := 33) (sup : Nat := 0) (ifs : Array Nat := #[]) (fds : Array FieldInfo := #[]) : ClassFile where
  minorVersion := 0
  majorVersion := 65
  constantPool := pool
  accessFlags := fl
  thisClass := this
  superClass := sup
  interfaces := ifs
  fields := fds
  methods := ms
  attributes := attrs
def plain (name : String) (sup : Option ClassId) : Class where
  name := name
  kind := .ordinary
  loader := none
  accessFlags := 33
  super := sup
  interfaces := #[]
  cf := none
  fields := #[]
  methods := #[]
  instanceTypes := #[]
  staticTypes := #[]
  resolved := #[]
  callSites := []
  init := .initialized
  statics := none
  mirror := none

def pool0 : Array CpInfo := pool [(5, u "<init>"), (0, u "()V"), (1, .class_ 10), (1, u "java/lang/Object")] 113

def k0c0 : Code := { maxStack := 0, maxLocals := 1, code := object_method_1_code, exceptionTable := #[], attributes := #[] }
def k0m0 : Method := { name := "<init>", desc := "()V", sig := { parameters := [], returnType := none }, accessFlags := 1, code := some k0c0 }
/-- java/lang/Object -/
def k0 : Class := { plain "java/lang/Object" none with
  accessFlags := 33
  interfaces := #[]
  cf := some (fileOf pool0 8 #[] #[{ accessFlags := 1, nameIndex := 5, descriptorIndex := 6, attributes := #[] }] 33 0 #[] #[])
  fields := #[]
  methods := #[k0m0]
  instanceTypes := #[]
  staticTypes := #[]
  resolved := Array.replicate 124 none
  statics := none }

def pool1 : Array CpInfo := pool [(2, .class_ 4), (1, u "java/lang/Object"), (0, u "<init>"), (0, u "()V"), (0, .integer 2147483647), (0, .class_ 9), (0, u "org/surnia/graph/Chains"), (0, .methodref 8 11), (0, .nameAndType 5 12), (0, u "(I)V"), (0, .methodref 8 14), (0, .nameAndType 15 16), (0, u "key"), (0, u "(III)J"), (0, .long 4294967296), (1, .methodref 8 20), (0, .nameAndType 21 22), (0, u "places"), (0, u "()I"), (0, .class_ 24), (0, u "org/surnia/graph/ChainsKeyPinLaw"), (2, u "law"), (0, u "(IIII)Z")] 3

def k1m0 : Method := { name := "<init>", desc := "()V", sig := { parameters := [], returnType := none }, accessFlags := 1, code := none }
def k1c1 : Code := { maxStack := 4, maxLocals := 14, code := code, exceptionTable := #[], attributes := #[] }
def k1m1 : Method := { name := "law", desc := "(IIII)Z", sig := { parameters := [.int, .int, .int, .int], returnType := some .boolean }, accessFlags := 9, code := some k1c1 }
/-- org/surnia/graph/ChainsKeyPinLaw -/
def k1 : Class := { plain "org/surnia/graph/ChainsKeyPinLaw" (some 0) with
  accessFlags := 49
  interfaces := #[]
  cf := some (fileOf pool1 23 #[] #[{ accessFlags := 1, nameIndex := 5, descriptorIndex := 6, attributes := #[] }, { accessFlags := 9, nameIndex := 27, descriptorIndex := 28, attributes := #[] }] 49 2 #[] #[])
  fields := #[]
  methods := #[k1m0, k1m1]
  instanceTypes := #[]
  staticTypes := #[]
  resolved := Array.replicate 32 none
  statics := none }

def pool2 : Array CpInfo := pool [(1, .class_ 2), (0, u "org/surnia/graph/LongIntMap"), (0, .methodref 4 5), (0, .class_ 6), (0, .nameAndType 7 8), (0, u "java/lang/Object"), (0, u "<init>"), (0, u "()V"), (0, .methodref 1 5), (0, .fieldref 11 12), (0, .class_ 13), (0, .nameAndType 14 15), (0, u "org/surnia/graph/Chains"), (0, u "newest"), (0, u "Lorg/surnia/graph/LongIntMap;"), (0, .fieldref 11 17), (0, .nameAndType 18 19), (0, u "older"), (0, u "[I"), (0, .fieldref 11 21), (0, .nameAndType 22 23), (0, u "places"), (0, u "I"), (20, u "END"), (2, u "SUBJECT"), (1, u "PREDICATE"), (1, u "OBJECT"), (1, u "(I)V"), (2, u "()I"), (0, u "key"), (0, u "(III)J")] 8

def k2c0 : Code := { maxStack := 3, maxLocals := 2, code := prog_14_method_1_code, exceptionTable := #[], attributes := #[] }
def k2m0 : Method := { name := "<init>", desc := "(I)V", sig := { parameters := [.int], returnType := none }, accessFlags := 0, code := some k2c0 }
def k2c1 : Code := { maxStack := 1, maxLocals := 1, code := prog_14_method_2_code, exceptionTable := #[], attributes := #[] }
def k2m1 : Method := { name := "places", desc := "()I", sig := { parameters := [], returnType := some .int }, accessFlags := 0, code := some k2c1 }
def k2c2 : Code := { maxStack := 4, maxLocals := 6, code := prog_14_method_3_code, exceptionTable := #[], attributes := #[] }
def k2m2 : Method := { name := "key", desc := "(III)J", sig := { parameters := [.int, .int, .int], returnType := some .long }, accessFlags := 0, code := some k2c2 }
/-- org/surnia/graph/Chains -/
def k2 : Class := { plain "org/surnia/graph/Chains" (some 0) with
  accessFlags := 48
  interfaces := #[]
  cf := some (fileOf pool2 11 #[] #[{ accessFlags := 0, nameIndex := 7, descriptorIndex := 53, attributes := #[] }, { accessFlags := 0, nameIndex := 22, descriptorIndex := 56, attributes := #[] }, { accessFlags := 0, nameIndex := 57, descriptorIndex := 58, attributes := #[] }] 48 4 #[] #[{ accessFlags := 24, nameIndex := 44, descriptorIndex := 23, attributes := #[] }, { accessFlags := 24, nameIndex := 47, descriptorIndex := 23, attributes := #[] }, { accessFlags := 24, nameIndex := 49, descriptorIndex := 23, attributes := #[] }, { accessFlags := 24, nameIndex := 51, descriptorIndex := 23, attributes := #[] }, { accessFlags := 18, nameIndex := 22, descriptorIndex := 23, attributes := #[] }, { accessFlags := 18, nameIndex := 14, descriptorIndex := 15, attributes := #[] }, { accessFlags := 2, nameIndex := 18, descriptorIndex := 19, attributes := #[] }])
  fields := #[{ name := "END", type := .int, accessFlags := 24, slot := 0, constantValue := 0 }, { name := "SUBJECT", type := .int, accessFlags := 24, slot := 1, constantValue := 0 }, { name := "PREDICATE", type := .int, accessFlags := 24, slot := 2, constantValue := 0 }, { name := "OBJECT", type := .int, accessFlags := 24, slot := 3, constantValue := 0 }, { name := "places", type := .int, accessFlags := 18, slot := 0, constantValue := 0 }, { name := "newest", type := (.object "org/surnia/graph/LongIntMap"), accessFlags := 18, slot := 1, constantValue := 0 }, { name := "older", type := (.array .int), accessFlags := 2, slot := 2, constantValue := 0 }]
  methods := #[k2m0, k2m1, k2m2]
  instanceTypes := #[.int, (.object "org/surnia/graph/LongIntMap"), (.array .int)]
  staticTypes := #[.int, .int, .int, .int]
  resolved := Array.replicate 67 none
  statics := none }

def pool3 : Array CpInfo := pool [(1, .methodref 2 3), (0, .class_ 4), (0, .nameAndType 5 6), (0, u "java/lang/Object"), (0, u "<init>"), (0, u "()V"), (0, .methodref 8 9), (0, .class_ 10), (0, .nameAndType 11 12), (0, u "org/surnia/graph/LongIntMap"), (0, u "newKeys"), (0, u "(I)[J"), (0, .fieldref 8 14), (0, .nameAndType 15 16), (0, u "keys"), (0, u "[J"), (0, .fieldref 8 18), (0, .nameAndType 19 20), (0, u "values"), (0, u "[I"), (4, .long 18446744073709551615), (3, u "size"), (0, u "I"), (5, .methodref 37 38), (0, .class_ 39), (0, .nameAndType 40 41), (0, u "java/util/Arrays"), (0, u "fill"), (0, u "([JJ)V"), (0, u "NONE"), (2, u "FREE"), (0, u "J")] 10

def k3c0 : Code := { maxStack := 2, maxLocals := 1, code := prog_18_method_1_code, exceptionTable := #[], attributes := #[] }
def k3m0 : Method := { name := "<init>", desc := "()V", sig := { parameters := [], returnType := none }, accessFlags := 0, code := some k3c0 }
def k3c1 : Code := { maxStack := 3, maxLocals := 2, code := prog_18_method_6_code, exceptionTable := #[], attributes := #[] }
def k3m1 : Method := { name := "newKeys", desc := "(I)[J", sig := { parameters := [.int], returnType := some (.array .long) }, accessFlags := 10, code := some k3c1 }
/-- org/surnia/graph/LongIntMap -/
def k3 : Class := { plain "org/surnia/graph/LongIntMap" (some 0) with
  accessFlags := 48
  interfaces := #[]
  cf := some (fileOf pool3 8 #[] #[{ accessFlags := 0, nameIndex := 5, descriptorIndex := 6, attributes := #[] }, { accessFlags := 10, nameIndex := 11, descriptorIndex := 12, attributes := #[] }] 48 2 #[] #[{ accessFlags := 24, nameIndex := 42, descriptorIndex := 30, attributes := #[] }, { accessFlags := 26, nameIndex := 45, descriptorIndex := 46, attributes := #[] }, { accessFlags := 2, nameIndex := 15, descriptorIndex := 16, attributes := #[] }, { accessFlags := 2, nameIndex := 19, descriptorIndex := 20, attributes := #[] }, { accessFlags := 2, nameIndex := 29, descriptorIndex := 30, attributes := #[] }])
  fields := #[{ name := "NONE", type := .int, accessFlags := 24, slot := 0, constantValue := 0 }, { name := "FREE", type := .long, accessFlags := 26, slot := 1, constantValue := 0 }, { name := "keys", type := (.array .long), accessFlags := 2, slot := 0, constantValue := 0 }, { name := "values", type := (.array .int), accessFlags := 2, slot := 1, constantValue := 0 }, { name := "size", type := .int, accessFlags := 2, slot := 2, constantValue := 0 }]
  methods := #[k3m0, k3m1]
  instanceTypes := #[(.array .long), (.array .int), .int]
  staticTypes := #[.int, .long]
  resolved := Array.replicate 57 none
  statics := none }

def pool4 : Array CpInfo := pool [(2, .class_ 4), (1, u "java/lang/Object"), (0, u "<init>"), (0, u "()V"), (7, .class_ 16), (1, u "java/util/Arrays"), (57, .class_ 76), (1, u "java/util/Arrays$NaturalOrder"), (36, .class_ 115), (1, u "java/util/Arrays$LegacyMergeSort"), (1, u "Z"), (257, .class_ 376), (0, u "java/util/Arrays$ArrayList"), (68, u "$assertionsDisabled"), (269, u "MIN_ARRAY_SORT_GRAN"), (0, u "I"), (2, u "INSERTIONSORT_THRESHOLD"), (120, u "fill"), (0, u "([JJ)V"), (133, .class_ 976), (0, u "java/util/Arrays$ArrayItr")] 52

def k4m0 : Method := { name := "<init>", desc := "()V", sig := { parameters := [], returnType := none }, accessFlags := 2, code := none }
def k4c1 : Code := { maxStack := 4, maxLocals := 5, code := jdk_65_method_101_code, exceptionTable := #[], attributes := #[] }
def k4m1 : Method := { name := "fill", desc := "([JJ)V", sig := { parameters := [(.array .long), .long], returnType := none }, accessFlags := 9, code := some k4c1 }
/-- java/util/Arrays -/
def k4 : Class := { plain "java/util/Arrays" (some 0) with
  accessFlags := 49
  interfaces := #[]
  cf := some (fileOf pool4 14 #[.nestMembers #[975, 375, 113, 74]] #[{ accessFlags := 2, nameIndex := 5, descriptorIndex := 6, attributes := #[] }, { accessFlags := 9, nameIndex := 840, descriptorIndex := 841, attributes := #[] }] 49 2 #[] #[{ accessFlags := 26, nameIndex := 715, descriptorIndex := 716, attributes := #[] }, { accessFlags := 26, nameIndex := 719, descriptorIndex := 716, attributes := #[] }, { accessFlags := 4120, nameIndex := 445, descriptorIndex := 117, attributes := #[] }])
  fields := #[{ name := "MIN_ARRAY_SORT_GRAN", type := .int, accessFlags := 26, slot := 0, constantValue := 0 }, { name := "INSERTIONSORT_THRESHOLD", type := .int, accessFlags := 26, slot := 1, constantValue := 0 }, { name := "$assertionsDisabled", type := .boolean, accessFlags := 4120, slot := 2, constantValue := 0 }]
  methods := #[k4m0, k4m1]
  instanceTypes := #[]
  staticTypes := #[.int, .int, .boolean]
  resolved := Array.replicate 1029 none
  statics := none }

def pool5 : Array CpInfo := pool [(1, u "java/lang/Cloneable"), (0, .class_ 1), (0, u "java/lang/Object"), (0, .class_ 3)] 3

/-- java/lang/Cloneable -/
def k5 : Class := { plain "java/lang/Cloneable" (some 0) with
  accessFlags := 1537
  interfaces := #[]
  cf := some (fileOf pool5 2 #[] #[] 1537 4 #[] #[])
  fields := #[]
  methods := #[]
  instanceTypes := #[]
  staticTypes := #[]
  resolved := Array.replicate 8 none
  statics := none }

def pool6 : Array CpInfo := pool [(1, u "java/io/Serializable"), (0, .class_ 1), (0, u "java/lang/Object"), (0, .class_ 3)] 3

/-- java/io/Serializable -/
def k6 : Class := { plain "java/io/Serializable" (some 0) with
  accessFlags := 1537
  interfaces := #[]
  cf := some (fileOf pool6 2 #[] #[] 1537 4 #[] #[])
  fields := #[]
  methods := #[]
  instanceTypes := #[]
  staticTypes := #[]
  resolved := Array.replicate 8 none
  statics := none }

/-- the primitive byte -/
def k7 : Class := { plain "byte" none with kind := .primitive 'B', accessFlags := 0x411 }
/-- [B -/
def k8 : Class := { plain "[B" (some 0) with kind := .array 7 .byte, interfaces := #[5, 6], accessFlags := 1041 }

/-- the primitive int -/
def k9 : Class := { plain "int" none with kind := .primitive 'I', accessFlags := 0x411 }
/-- [I -/
def k10 : Class := { plain "[I" (some 0) with kind := .array 9 .int, interfaces := #[5, 6], accessFlags := 1041 }

/-- the primitive long -/
def k11 : Class := { plain "long" none with kind := .primitive 'J', accessFlags := 0x411 }
/-- [J -/
def k12 : Class := { plain "[J" (some 0) with kind := .array 11 .long, interfaces := #[5, 6], accessFlags := 1041 }

def heap : Heap := #[]
def classes : Array Class := #[k0, k1, k2, k3, k4, k5, k6, k7, k8, k9, k10, k11, k12]
def interned : List (Array UInt16 × Addr) := []
def slotsUsed : Nat := 0
def theMethod : MethodId := ⟨1, 1⟩
def args0 : Array Value := #[.int 5, .int 3, .int 4, .int 9]
def aboutOver (below : List Frame) : State where
  vm := { classes := classes, interned := interned.toArray }
  heap := heap
  slotsUsed := slotsUsed
  threads := #[{ frames := .invoking theMethod args0 :: below }]
def below0 : List Frame := [.native { method := ⟨0, 0⟩, args := #[] }]
def about1 : State := aboutOver below0
def p0 : Program := .bare "" "" ""
def e0 : Env := launch0.env 0 0 0
theorem w_frames : about1.frames = Frame.invoking theMethod args0 :: below0 := rfl
set_option maxRecDepth 65536 in
theorem w_args : argsFit about1.vm theMethod args0 = true := by decide +kernel
set_option maxRecDepth 65536 in
theorem w_heap : heapFits about1 = true := by decide +kernel
set_option maxRecDepth 65536 in
theorem w_runnable : about1.curStatus? = some .runnable := by decide +kernel
set_option maxRecDepth 65536 in
theorem w_alone : about1.alone = true := by decide +kernel
set_option maxRecDepth 65536 in
theorem w_named : about1.methodNamed? x = some theMethod := by decide +kernel
set_option maxRecDepth 65536 in
theorem w_hears : about1.hears theMethod below0 = true := by decide +kernel
set_option maxRecDepth 65536 in
theorem w_ripe : about1.ripe theMethod args0 below0 = true := by decide +kernel
theorem w_running : about1.status = .running := rfl
set_option maxRecDepth 65536 in
theorem w_room : about1.hasRoom e0.platform room_1 = true :=
  launch0.hasRoom_least _ room_1 (by decide +kernel) (by decide +kernel) (by decide +kernel) (by decide +kernel) (by decide +kernel) (by decide +kernel)
theorem allAtoms_all (ts : List Jvm.Cond) (a : Array Jvm.Value) (st : Jvm.State) : (allAtoms ts).before a st = ts.all (fun c => c.before a st) := by
  induction ts with
  | nil => rfl
  | cons c t ih =>
    show (Jvm.Cond.and c (allAtoms t)).before a st = _
    rw [Jvm.Cond.before_and, ih, List.all_cons]
def words1 : List Jvm.Cond := Jvm.Cond.code x code maxLocals ret :: tables_1
/-- a 'code' word, met by the world's own term for the bytes: nothing is compared byte by byte -/
theorem code_word {y : MethodName} {bytes : ByteArray} {mx : Nat} {rt : Option FieldType} {a : Array Value} {s : State} {m : MethodId} {meth : Method} {c : Code} (h1 : s.methodNamed? y = some m) (h2 : s.vm.method? m = some meth) (h3 : meth.code = some c) (h4 : c.code = bytes)
    (h5 : (c.maxLocals == mx && c.exceptionTable.isEmpty && decide (c.maxStack ≤ mostOperands) && decide (meth.sig.returnType = rt) && !meth.locks && decide (parseMethodDescriptor y.desc = some meth.sig)) = true) : (Jvm.Cond.code y bytes mx rt).before a s = true := by
  simp only [Bool.and_eq_true, beq_iff_eq, Bool.not_eq_true', decide_eq_true_eq] at h5
  obtain ⟨⟨⟨⟨⟨g1, g2⟩, g3⟩, g4⟩, g5⟩, g6⟩ := h5
  simp [Cond.before, Cond.holds, Cond.value, h1, h2, h3, h4, g1, g2, g3, g4, g5, g6]
def isCode : Jvm.Cond → Bool
  | .code _ _ _ _ => true
  | _ => false
theorem all_split {L : List Jvm.Cond} {P : Jvm.Cond → Bool} (h1 : L.all (fun c => isCode c || P c) = true) (h2 : ∀ c ∈ L.filter isCode, P c = true) : L.all P = true := by
  refine List.all_eq_true.mpr fun c hc => ?_
  have h := List.all_eq_true.mp h1 c hc
  rcases Bool.eq_false_or_eq_true (isCode c) with hi | hi
  · exact h2 c (List.mem_filter.mpr ⟨hc, hi⟩)
  · simpa [hi] using h
set_option maxRecDepth 65536 in
theorem w_c0 : (Jvm.Cond.code x code maxLocals ret).before args0 about1 = true := code_word (m := ⟨1, 1⟩) (meth := k1m1) (c := k1c1) (by decide +kernel) rfl rfl rfl (by decide +kernel)
set_option maxRecDepth 65536 in
theorem w_c1 : (Jvm.Cond.code ({ cls := "org/surnia/graph/Chains", name := "<init>", desc := "(I)V" } : Jvm.MethodName) prog_14_method_1_code (2 : Nat) (Option.none : Option Jvm.ClassFile.FieldType)).before args0 about1 = true := code_word (m := ⟨2, 0⟩) (meth := k2m0) (c := k2c0) (by decide +kernel) rfl rfl rfl (by decide +kernel)
set_option maxRecDepth 65536 in
theorem w_c2 : (Jvm.Cond.code ({ cls := "java/lang/Object", name := "<init>", desc := "()V" } : Jvm.MethodName) object_method_1_code (1 : Nat) (Option.none : Option Jvm.ClassFile.FieldType)).before args0 about1 = true := code_word (m := ⟨0, 0⟩) (meth := k0m0) (c := k0c0) (by decide +kernel) rfl rfl rfl (by decide +kernel)
set_option maxRecDepth 65536 in
theorem w_c3 : (Jvm.Cond.code ({ cls := "org/surnia/graph/LongIntMap", name := "<init>", desc := "()V" } : Jvm.MethodName) prog_18_method_1_code (1 : Nat) (Option.none : Option Jvm.ClassFile.FieldType)).before args0 about1 = true := code_word (m := ⟨3, 0⟩) (meth := k3m0) (c := k3c0) (by decide +kernel) rfl rfl rfl (by decide +kernel)
set_option maxRecDepth 65536 in
theorem w_c4 : (Jvm.Cond.code ({ cls := "org/surnia/graph/LongIntMap", name := "newKeys", desc := "(I)[J" } : Jvm.MethodName) prog_18_method_6_code (2 : Nat) (Option.some (Jvm.ClassFile.FieldType.array Jvm.ClassFile.FieldType.long))).before args0 about1 = true := code_word (m := ⟨3, 1⟩) (meth := k3m1) (c := k3c1) (by decide +kernel) rfl rfl rfl (by decide +kernel)
set_option maxRecDepth 65536 in
theorem w_c5 : (Jvm.Cond.code ({ cls := "java/util/Arrays", name := "fill", desc := "([JJ)V" } : Jvm.MethodName) jdk_65_method_101_code (5 : Nat) (Option.none : Option Jvm.ClassFile.FieldType)).before args0 about1 = true := code_word (m := ⟨4, 1⟩) (meth := k4m1) (c := k4c1) (by decide +kernel) rfl rfl rfl (by decide +kernel)
set_option maxRecDepth 65536 in
theorem w_c6 : (Jvm.Cond.code ({ cls := "org/surnia/graph/Chains", name := "key", desc := "(III)J" } : Jvm.MethodName) prog_14_method_3_code (6 : Nat) (Option.some Jvm.ClassFile.FieldType.long)).before args0 about1 = true := code_word (m := ⟨2, 2⟩) (meth := k2m2) (c := k2c2) (by decide +kernel) rfl rfl rfl (by decide +kernel)
set_option maxRecDepth 65536 in
theorem w_c7 : (Jvm.Cond.code ({ cls := "org/surnia/graph/Chains", name := "places", desc := "()I" } : Jvm.MethodName) prog_14_method_2_code (1 : Nat) (Option.some Jvm.ClassFile.FieldType.int)).before args0 about1 = true := code_word (m := ⟨2, 1⟩) (meth := k2m1) (c := k2c1) (by decide +kernel) rfl rfl rfl (by decide +kernel)
def codes1 : List Jvm.Cond := [Jvm.Cond.code x code maxLocals ret, Jvm.Cond.code ({ cls := "org/surnia/graph/Chains", name := "<init>", desc := "(I)V" } : Jvm.MethodName) prog_14_method_1_code (2 : Nat) (Option.none : Option Jvm.ClassFile.FieldType), Jvm.Cond.code ({ cls := "java/lang/Object", name := "<init>", desc := "()V" } : Jvm.MethodName) object_method_1_code (1 : Nat) (Option.none : Option Jvm.ClassFile.FieldType), Jvm.Cond.code ({ cls := "org/surnia/graph/LongIntMap", name := "<init>", desc := "()V" } : Jvm.MethodName) prog_18_method_1_code (1 : Nat) (Option.none : Option Jvm.ClassFile.FieldType), Jvm.Cond.code ({ cls := "org/surnia/graph/LongIntMap", name := "newKeys", desc := "(I)[J" } : Jvm.MethodName) prog_18_method_6_code (2 : Nat) (Option.some (Jvm.ClassFile.FieldType.array Jvm.ClassFile.FieldType.long)), Jvm.Cond.code ({ cls := "java/util/Arrays", name := "fill", desc := "([JJ)V" } : Jvm.MethodName) jdk_65_method_101_code (5 : Nat) (Option.none : Option Jvm.ClassFile.FieldType), Jvm.Cond.code ({ cls := "org/surnia/graph/Chains", name := "key", desc := "(III)J" } : Jvm.MethodName) prog_14_method_3_code (6 : Nat) (Option.some Jvm.ClassFile.FieldType.long), Jvm.Cond.code ({ cls := "org/surnia/graph/Chains", name := "places", desc := "()I" } : Jvm.MethodName) prog_14_method_2_code (1 : Nat) (Option.some Jvm.ClassFile.FieldType.int)]
set_option maxRecDepth 65536 in
theorem codes_eq : words1.filter isCode = codes1 := rfl
theorem w_codes : ∀ c ∈ words1.filter isCode, c.before args0 about1 = true := by
  rw [codes_eq]
  intro c hc
  simp only [codes1, List.mem_cons, List.not_mem_nil, or_false] at hc
  rcases hc with rfl | rfl | rfl | rfl | rfl | rfl | rfl | rfl
  · exact w_c0
  · exact w_c1
  · exact w_c2
  · exact w_c3
  · exact w_c4
  · exact w_c5
  · exact w_c6
  · exact w_c7
set_option maxRecDepth 65536 in
theorem w_t1 : (words1.take 24).all (fun c => isCode c || c.before args0 about1) = true := by decide +kernel
set_option maxRecDepth 65536 in
theorem w_t2 : ((words1.drop 24).take 24).all (fun c => isCode c || c.before args0 about1) = true := by decide +kernel
set_option maxRecDepth 65536 in
theorem w_t3 : ((words1.drop 24).drop 24).all (fun c => isCode c || c.before args0 about1) = true := by decide +kernel
theorem w_tables : (allAtoms (Jvm.Cond.code x code maxLocals ret :: tables_1)).before args0 about1 = true := by
  rw [allAtoms_all]
  show words1.all (fun c => c.before args0 about1) = true
  refine all_split ?_ w_codes
  rw [← List.take_append_drop 24 words1, List.all_append, w_t1, ← List.take_append_drop 24 (words1.drop 24), List.all_append, w_t2, w_t3]
  rfl
set_option maxRecDepth 65536 in
theorem w_case : (Jvm.Cond.and given_1 narrow_1).before args0 about1 = true := by decide +kernel
theorem w_applies : (headSpec (Jvm.Cond.code x code maxLocals ret :: tables_1) room_1).applies x e0.platform about1 = true :=
  (Spec.applies_iff w_frames).mpr ⟨w_running, w_runnable, w_alone, w_named, w_hears, w_ripe, w_room, w_tables⟩
theorem atStart : AtStart classFile x code maxLocals ret World_1 tables_1 room_1 Calls_1 rest_1 Pre_1 launch0 p0 e0 about1 theMethod args0 below0 :=
  ⟨lists_1, trivial, launch0.admits_env _ _ _, launch0.least_env, fairChoices_fair.cas, fairChoices_fair.clock, w_frames, w_args, w_heap, w_applies, trivial, trivial, w_case⟩
end start1
theorem witness_1 : WitnessClaimed_1 := ⟨start1.p0, start1.e0, start1.about1, start1.theMethod, start1.args0, start1.below0, start1.atStart⟩
end Jvm.Pilot.@@N@@
