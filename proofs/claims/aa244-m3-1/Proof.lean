import JvmDerived
import JvmDerived.Pilot.@@N@@Statement
import JvmDerived.Pilot.@@N@@Code
set_option linter.unusedVariables false
set_option linter.unusedSimpArgs false
@@BLOCK:NumsL.lean.txt@@
namespace Jvm.RoadKit
open Sem ClassFile Op Lib Jvm.Stand Jvm.Free Jvm.LawKit
section Own
variable {p : Program} {l : Launch} {e : Env} {R : Room} {s : State} {m : MethodId} {args : Array Value} {below : List Frame} {meth : Method} {c : Code} {T : State} {locs : List Loc} {cells slots : Nat} {Z : State} {h h' : Heap} {Q : Option Value → Heap → List Loc → Prop} {kc ks : Nat}
/-- from the state S the run comes to an end of which Q holds -/
def OGo (p : Program) (e : Env) (below : List Frame) (s : State) (Q : Option Value → Heap → List Loc → Prop) (kc ks : Nat) (S : State) : Prop :=
  ∃ s₂ o, Steps p.tables e below S s₂ ∧ s₂.status = .running ∧ Ended s₂ below o ∧ ∃ v L, o = .returned v ∧ Q v s₂.heap L ∧ FrameEnd s o s₂ L kc ks
theorem OGo.on {C N : State} (st : ∀ t, Steps p.tables e below N t → Steps p.tables e below C t) (h : OGo p e below s Q kc ks N) : OGo p e below s Q kc ks C := by
  obtain ⟨s₂, o, h1, h2⟩ := h
  exact ⟨s₂, o, st _ h1, h2⟩
theorem OGo.fin (X : Stand p l e R s m args below meth c T locs cells slots) {v : Option Value} (hv : meth.sig.returnType = none → v = none) (hlocks : meth.locks = false) {C : State}
    (st : ∀ fs, (∀ (f : JFrame) (acts : List Action), f.method = m → f.locked = none → f.entered = [] → (doReturn e (T.setTop f) acts v).1 = T.setFrames fs) → Steps p.tables e below C (T.setFrames fs)) (hq : Q v T.heap locs) (hc : cells ≤ kc) (hs : slots ≤ ks) : OGo p e below s Q kc ks C := by
  obtain ⟨fs, hr, hrun, hended, hW, hsame⟩ := X.leave hv hlocks
  exact ⟨_, _, st fs hr, hrun, hended, v, locs, rfl, hq, ⟨_, rfl⟩, hW, hsame.mono hc hs⟩
theorem OGo.retN (X : Stand p l e R s m args below meth c T locs cells slots) (hx : p.tables.exec = Jvm.exec) {pc : Nat} {Ls : Array Slot} {z : Int32} {t : FieldType} {rest : List Value} (hret : meth.sig.returnType = some t) (hlocks : meth.locks = false) (ht : t = .boolean ∨ t = .byte ∨ t = .char ∨ t = .short)
    (hd : decode c.code pc = .ok (.ireturn, 1)) (hq : Q (some (.int (nar t z))) T.heap locs) (hc : cells ≤ kc) (hs : slots ≤ ks) : OGo p e below s Q kc ks (T.setTop (mkF m pc Ls (.int z :: rest))) :=
  OGo.fin X (fun h => by rw [hret] at h; cases h) hlocks (fun fs hr => Jvm.RoadKit.retN X hx hret ht hd hr) hq hc hs
theorem OGo.retI (X : Stand p l e R s m args below meth c T locs cells slots) (hx : p.tables.exec = Jvm.exec) {pc : Nat} {Ls : Array Slot} {z : Int32} {rest : List Value} (hret : meth.sig.returnType = some .int) (hlocks : meth.locks = false)
    (hd : decode c.code pc = .ok (.ireturn, 1)) (hq : Q (some (.int z)) T.heap locs) (hc : cells ≤ kc) (hs : slots ≤ ks) : OGo p e below s Q kc ks (T.setTop (mkF m pc Ls (.int z :: rest))) :=
  OGo.fin X (fun h => by rw [hret] at h; cases h) hlocks (fun fs hr => retOut X hx hret rfl (Or.inl ⟨rfl, Or.inl rfl, _, rfl⟩) hd hr) hq hc hs
theorem OGo.retJ (X : Stand p l e R s m args below meth c T locs cells slots) (hx : p.tables.exec = Jvm.exec) {pc : Nat} {Ls : Array Slot} {z : Int64} {rest : List Value} (hret : meth.sig.returnType = some .long) (hlocks : meth.locks = false)
    (hd : decode c.code pc = .ok (.lreturn, 1)) (hq : Q (some (.long z)) T.heap locs) (hc : cells ≤ kc) (hs : slots ≤ ks) : OGo p e below s Q kc ks (T.setTop (mkF m pc Ls (.long z :: rest))) :=
  OGo.fin X (fun h => by rw [hret] at h; cases h) hlocks (fun fs hr => retOut X hx hret rfl (Or.inr (Or.inl ⟨rfl, rfl, _, rfl⟩)) hd hr) hq hc hs
theorem OGo.retA (X : Stand p l e R s m args below meth c T locs cells slots) (hx : p.tables.exec = Jvm.exec) {pc : Nat} {Ls : Array Slot} {a : Addr} {t : FieldType} {rest : List Value} (hret : meth.sig.returnType = some t) (ht : t.isReference = true) (hn : narrow t (.ref a) = .ref a) (hlocks : meth.locks = false)
    (hd : decode c.code pc = .ok (.areturn, 1)) (hq : Q (some (.ref a)) T.heap locs) (hc : cells ≤ kc) (hs : slots ≤ ks) : OGo p e below s Q kc ks (T.setTop (mkF m pc Ls (.ref a :: rest))) :=
  OGo.fin X (fun h => by rw [hret] at h; cases h) hlocks (fun fs hr => retOut X hx hret hn (Or.inr (Or.inr (Or.inr (Or.inr ⟨rfl, ht, rfl⟩)))) hd hr) hq hc hs
theorem OGo.ret0 (X : Stand p l e R s m args below meth c T locs cells slots) (hx : p.tables.exec = Jvm.exec) {pc : Nat} {Ls : Array Slot} (hret : meth.sig.returnType = none) (hlocks : meth.locks = false)
    (hd : decode c.code pc = .ok (.return_, 1)) (hq : Q none T.heap locs) (hc : cells ≤ kc) (hs : slots ≤ ks) : OGo p e below s Q kc ks (T.setTop (mkF m pc Ls [])) :=
  OGo.fin X (fun _ => rfl) hlocks (fun fs hr => X.returnOut hx hret hd hr) hq hc hs
/-- what a body that writes nothing leaves -/
def OPure (n0 : Nat) (h0 : Heap) (r : Option Value) (v : Option Value) (h : Heap) (L : List Loc) : Prop := v = r ∧ Fr n0 L ∧ h = h0
theorem opI {n0 : Nat} {h0 : Heap} {x y : Int32} {L : List Loc} (q : x = y) (N : Fr n0 L) (E : h = h0) : OPure n0 h0 (some (.int y)) (some (.int x)) h L := ⟨by rw [q], N, E⟩
theorem opJ {n0 : Nat} {h0 : Heap} {x y : Int64} {L : List Loc} (q : x = y) (N : Fr n0 L) (E : h = h0) : OPure n0 h0 (some (.long y)) (some (.long x)) h L := ⟨by rw [q], N, E⟩
theorem own_nz1 : nar .boolean 1 = 1 := rfl
theorem own_nz0 : nar .boolean 0 = 0 := rfl
theorem own_irem {C : State} {x y : Int32} {g : JFrame} (X : Stand p l e R s m args below meth c T locs cells slots) (hx : p.tables.exec = Jvm.exec) (hg : g.method = m) {rest : List Value} (hd : decode c.code g.pc = .ok (.irem, 1)) (hs : g.stack = .int y :: .int x :: rest) (hy : y ≠ 0) :
    ∀ t, Steps p.tables e below (T.setTop { g with pc := g.pc + 1, stack := .int (x % y) :: rest }) t → Steps p.tables e below (T.setTop g) t := fun t k => iremM X hx hg hd hs hy k
/-! lcmp and the branch behind it -/
theorem own_lc (cd : ClassFile.Cond) (a b : Int64) : ifCond.holds cd (lcmpW a b) = (match cd with | .eq => decide (a = b) | .ne => !decide (a = b) | .lt => decide (a < b) | .ge => !decide (a < b) | .gt => decide (b < a) | .le => !decide (b < a)) := by
  have h1 : a = b ↔ a.toInt = b.toInt := (Int64.toInt_inj).symm
  by_cases g : a > b
  · have g' : b.toInt < a.toInt := Int64.lt_iff_toInt_lt.mp g
    have e1 : lcmpW a b = 1 := if_pos g
    have e2 : ¬ a = b := fun q => by rw [h1] at q; omega
    have e3 : ¬ a < b := fun q => by rw [Int64.lt_iff_toInt_lt] at q; omega
    have e4 : b < a := g
    rw [e1]; cases cd <;> simp [e2, e3, e4] <;> decide
  · by_cases q : a = b
    · have e1 : lcmpW a b = 0 := by rw [lcmpW, if_neg g, if_pos q]
      subst q
      have e3 : ¬ a < a := fun q => by rw [Int64.lt_iff_toInt_lt] at q; omega
      rw [e1]; cases cd <;> simp [e3] <;> decide
    · have e1 : lcmpW a b = -1 := by rw [lcmpW, if_neg g, if_neg q]
      have g1 : ¬ b < a := g
      have g2 : a < b := by rw [Int64.lt_iff_toInt_lt] at g1 ⊢; rw [h1] at q; omega
      rw [e1]; cases cd <;> simp [q, g1, g2] <;> decide
theorem lc_tlt {a b : Int64} (h : a < b) : ifCond.holds .lt (lcmpW a b) = true ∧ ifCond.holds .ge (lcmpW a b) = false ∧ ifCond.holds .gt (lcmpW b a) = true ∧ ifCond.holds .le (lcmpW b a) = false := by simp only [own_lc]; simp [h]
theorem lc_flt {a b : Int64} (h : ¬ a < b) : ifCond.holds .lt (lcmpW a b) = false ∧ ifCond.holds .ge (lcmpW a b) = true ∧ ifCond.holds .gt (lcmpW b a) = false ∧ ifCond.holds .le (lcmpW b a) = true := by simp only [own_lc]; simp [h]
theorem lc_teq {a b : Int64} (h : a = b) : ifCond.holds .eq (lcmpW a b) = true ∧ ifCond.holds .ne (lcmpW a b) = false := by simp only [own_lc]; simp [h]
theorem lc_feq {a b : Int64} (h : ¬ a = b) : ifCond.holds .eq (lcmpW a b) = false ∧ ifCond.holds .ne (lcmpW a b) = true := by simp only [own_lc]; simp [h]
theorem own_nm0 {a : Addr} : a ∉ ([] : List Addr) := fun q => nomatch q
theorem own_nm1 {a b : Addr} (h : a ≠ b) : a ∉ [b] := fun q => h (List.mem_singleton.mp q)
theorem own_nm2 {a b d : Addr} (h : a ≠ b) (h' : a ≠ d) : a ∉ [b, d] := fun q => (List.mem_cons.mp q).elim h fun q => h' (List.mem_singleton.mp q)
theorem own_nm3 {a b d f : Addr} (h : a ≠ b) (h' : a ≠ d) (h'' : a ≠ f) : a ∉ [b, d, f] := fun q => (List.mem_cons.mp q).elim h fun q => (own_nm2 h' h'') q
/-! arrays of numbers, known whole -/
/-- the array at a holds just the ints vs -/
def OAL (Z : State) (h : Heap) (a : Addr) (ty : FieldType) (vs : List Int32) : Prop := ∃ c : Cell, Arr Z h a c ty ∧ c.slots = (vs.map Value.int).toArray
/-- the array at a holds just the longs vs -/
def OAJ (Z : State) (h : Heap) (a : Addr) (vs : List Int64) : Prop := ∃ c : Cell, Arr Z h a c .long ∧ c.slots = (vs.map Value.long).toArray
/-- the place j lies inside and holds v -/
def OAt {α : Type} (vs : List α) (j : Int32) (v : α) : Prop := ¬ j < 0 ∧ vs[j.toNatClampNeg]? = some v
variable {a b : Addr} {ty : FieldType} {vs : List Int32} {us : List Int64} {ws : List Addr} {sl : Nat} {w : Value}
theorem OAL.lt (A : OAL Z h a ty vs) : a < h.size := by obtain ⟨c, A, -⟩ := A; exact A.lt
theorem OAJ.lt (A : OAJ Z h a us) : a < h.size := by obtain ⟨c, A, -⟩ := A; exact A.lt
theorem OAL.ext (A : OAL Z h a ty vs) (E : Ext h h') : OAL Z h' a ty vs := by obtain ⟨c, A, r⟩ := A; exact ⟨c, A.ext E, r⟩
theorem OAJ.ext (A : OAJ Z h a us) (E : Ext h h') : OAJ Z h' a us := by obtain ⟨c, A, r⟩ := A; exact ⟨c, A.ext E, r⟩
theorem OAL.keep (A : OAL Z h a ty vs) (K : Keep h h' ws) (q : a ∉ ws) : OAL Z h' a ty vs := by obtain ⟨c, A, r⟩ := A; exact ⟨c, ⟨K.2.1 a c A.1 q, A.2⟩, r⟩
theorem OAJ.keep (A : OAJ Z h a us) (K : Keep h h' ws) (q : a ∉ ws) : OAJ Z h' a us := by obtain ⟨c, A, r⟩ := A; exact ⟨c, ⟨K.2.1 a c A.1 q, A.2⟩, r⟩
theorem OAL.other (A : OAL Z h b ty vs) (W : Wr h h' a sl w) (q : b ≠ a) : OAL Z h' b ty vs := by obtain ⟨c, A, r⟩ := A; exact ⟨c, A.other W q, r⟩
theorem OAJ.other (A : OAJ Z h b us) (W : Wr h h' a sl w) (q : b ≠ a) : OAJ Z h' b us := by obtain ⟨c, A, r⟩ := A; exact ⟨c, A.other W q, r⟩
theorem own_slots (cl : Cell) (i : Nat) (v : Value) : (cl.setSlot i v).slots = cl.slots.setIfInBounds i v := rfl
theorem OAL.same (A : OAL Z h a ty vs) {i : Nat} {x : Int32} (W : Wr h h' a i (.int x)) : OAL Z h' a ty (vs.set i x) := by
  obtain ⟨c, A, r⟩ := A
  exact ⟨_, A.same W, by rw [own_slots, r]; simp [List.map_set]⟩
theorem OAJ.same (A : OAJ Z h a us) {i : Nat} {x : Int64} (W : Wr h h' a i (.long x)) : OAJ Z h' a (us.set i x) := by
  obtain ⟨c, A, r⟩ := A
  exact ⟨_, A.same W, by rw [own_slots, r]; simp [List.map_set]⟩
theorem OAL.new {cA : ClassId} {n : Int32} (A : Arr Z h a (newA cA ty n) ty) (q : defaultValue ty = .int 0) : OAL Z h a ty (List.replicate n.toNatClampNeg 0) := ⟨_, A, by
  show Array.replicate n.toNatClampNeg (defaultValue ty) = _
  rw [q]; simp⟩
theorem OAJ.new {cA : ClassId} {n : Int32} (A : Arr Z h a (newA cA .long n) .long) : OAJ Z h a (List.replicate n.toNatClampNeg 0) := ⟨_, A, by
  show Array.replicate n.toNatClampNeg (Value.long 0) = _
  simp⟩
theorem own_in {α : Type} {vs : List α} {f : α → Value} {j : Int32} {v : α} {cl : Cell} (r : cl.slots = (vs.map f).toArray) (q : OAt vs j v) : ¬ (j < 0 ∨ cl.slots.size ≤ j.toNatClampNeg) ∧ cl.slots[j.toNatClampNeg]? = some (f v) := by
  obtain ⟨q1, q2⟩ := q
  have hl := (List.getElem?_eq_some_iff.mp q2).1
  rw [r]
  refine ⟨fun z => z.elim q1 fun y => ?_, ?_⟩
  · simp at y; omega
  · simp [q2]
theorem OAL.baB (X : Stand p l e R s m args below meth c T locs cells slots) (hx : p.tables.exec = Jvm.exec) (hZ : Z.Warmed39 s.vm) (eT : T.heap = h) (A : OAL Z h a .byte vs) {j v : Int32} (q : OAt vs j v) {pc : Nat} {Ls : Array Slot} {rest : List Value} (hd : decode c.code pc = .ok (.baload, 1)) {t : State}
    (k : Steps p.tables e below (T.setTop (mkF m (pc + 1) Ls (.int v :: rest))) t) : Steps p.tables e below (T.setTop (mkF m pc Ls (.int j :: .ref a :: rest))) t := by
  obtain ⟨cl, A, r⟩ := A
  exact X.baloadBytes hx (j := j) (v := .int v) (by rw [eT]; exact A.1) (State.isArrayOf_alike hZ.alike A.2.1) A.2.2 (own_in r q).1 (own_in r q).2 (g := mkF m pc Ls (.int j :: .ref a :: rest)) rfl rfl hd _ k
theorem OAL.baZ (X : Stand p l e R s m args below meth c T locs cells slots) (hx : p.tables.exec = Jvm.exec) (hZ : Z.Warmed39 s.vm) (eT : T.heap = h) (A : OAL Z h a .boolean vs) {j v : Int32} (q : OAt vs j v) {pc : Nat} {Ls : Array Slot} {rest : List Value} (hd : decode c.code pc = .ok (.baload, 1)) {t : State}
    (k : Steps p.tables e below (T.setTop (mkF m (pc + 1) Ls (.int v :: rest))) t) : Steps p.tables e below (T.setTop (mkF m pc Ls (.int j :: .ref a :: rest))) t := by
  obtain ⟨cl, A, r⟩ := A
  exact X.baloadBooleans hx (j := j) (v := .int v) (by rw [eT]; exact A.1) (State.isArrayOf_alike hZ.alike A.2.1) A.2.2 (own_in r q).1 (own_in r q).2 (g := mkF m pc Ls (.int j :: .ref a :: rest)) rfl rfl hd _ k
theorem OAL.ia (X : Stand p l e R s m args below meth c T locs cells slots) (hx : p.tables.exec = Jvm.exec) (hZ : Z.Warmed39 s.vm) (eT : T.heap = h) (A : OAL Z h a .int vs) {j v : Int32} (q : OAt vs j v) {pc : Nat} {Ls : Array Slot} {rest : List Value} (hd : decode c.code pc = .ok (.iaload, 1)) {t : State}
    (k : Steps p.tables e below (T.setTop (mkF m (pc + 1) Ls (.int v :: rest))) t) : Steps p.tables e below (T.setTop (mkF m pc Ls (.int j :: .ref a :: rest))) t := by
  obtain ⟨cl, A, r⟩ := A
  exact X.iaload hx (j := j) (v := .int v) (by rw [eT]; exact A.1) (State.isArrayOf_alike hZ.alike A.2.1) A.2.2 (own_in r q).1 (own_in r q).2 (g := mkF m pc Ls (.int j :: .ref a :: rest)) rfl rfl hd _ k
theorem OAJ.la (X : Stand p l e R s m args below meth c T locs cells slots) (hx : p.tables.exec = Jvm.exec) (hZ : Z.Warmed39 s.vm) (eT : T.heap = h) (A : OAJ Z h a us) {j : Int32} {v : Int64} (q : OAt us j v) {pc : Nat} {Ls : Array Slot} {rest : List Value} (hd : decode c.code pc = .ok (.laload, 1)) {t : State}
    (k : Steps p.tables e below (T.setTop (mkF m (pc + 1) Ls (.long v :: rest))) t) : Steps p.tables e below (T.setTop (mkF m pc Ls (.int j :: .ref a :: rest))) t := by
  obtain ⟨cl, A, r⟩ := A
  exact X.laload hx (j := j) (v := .long v) (by rw [eT]; exact A.1) (State.isArrayOf_alike hZ.alike A.2.1) A.2.2 (own_in r q).1 (own_in r q).2 (g := mkF m pc Ls (.int j :: .ref a :: rest)) rfl rfl hd _ k
theorem OAL.len (X : Stand p l e R s m args below meth c T locs cells slots) (hx : p.tables.exec = Jvm.exec) (hZ : Z.Warmed39 s.vm) (eT : T.heap = h) (A : OAL Z h a ty vs) {n : Int32} (q : vs.length.toInt32 = n) {pc : Nat} {Ls : Array Slot} {rest : List Value} (hd : decode c.code pc = .ok (.arraylength, 1)) {t : State}
    (k : Steps p.tables e below (T.setTop (mkF m (pc + 1) Ls (.int n :: rest))) t) : Steps p.tables e below (T.setTop (mkF m pc Ls (.ref a :: rest))) t := by
  obtain ⟨cl, A, r⟩ := A
  have z : cl.slots.size = vs.length := by rw [r]; simp
  exact X.arraylength hx (by rw [eT]; exact A.1) (State.isArrayOf_alike hZ.alike A.2.1) (g := mkF m pc Ls (.ref a :: rest)) rfl rfl hd _ (by rw [z, q]; exact k)
theorem OAJ.len (X : Stand p l e R s m args below meth c T locs cells slots) (hx : p.tables.exec = Jvm.exec) (hZ : Z.Warmed39 s.vm) (eT : T.heap = h) (A : OAJ Z h a us) {n : Int32} (q : us.length.toInt32 = n) {pc : Nat} {Ls : Array Slot} {rest : List Value} (hd : decode c.code pc = .ok (.arraylength, 1)) {t : State}
    (k : Steps p.tables e below (T.setTop (mkF m (pc + 1) Ls (.int n :: rest))) t) : Steps p.tables e below (T.setTop (mkF m pc Ls (.ref a :: rest))) t := by
  obtain ⟨cl, A, r⟩ := A
  have z : cl.slots.size = us.length := by rw [r]; simp
  exact X.arraylength hx (by rw [eT]; exact A.1) (State.isArrayOf_alike hZ.alike A.2.1) (g := mkF m pc Ls (.ref a :: rest)) rfl rfl hd _ (by rw [z, q]; exact k)
theorem own_into {α : Type} {vs : List α} {f : α → Value} {j : Int32} {cl : Cell} (r : cl.slots = (vs.map f).toArray) (q1 : ¬ j < 0) (q2 : j.toNatClampNeg < vs.length) : ¬ (j < 0 ∨ cl.slots.size ≤ j.toNatClampNeg) := by
  rw [r]
  exact fun z => z.elim q1 fun y => by simp at y; omega
theorem OAL.stB (X : Stand p l e R s m args below meth c T locs cells slots) (hx : p.tables.exec = Jvm.exec) (hZ : Z.Warmed39 s.vm) (eT : T.heap = h) (A : OAL Z h a .byte vs) {j x : Int32} (q1 : ¬ j < 0) (q2 : j.toNatClampNeg < vs.length) {pc : Nat} {Ls : Array Slot} {rest : List Value} (hd : decode c.code pc = .ok (.bastore, 1)) :
    ∃ T' h', Stand p l e R s m args below meth c T' (locs ++ [⟨a, j.toNatClampNeg⟩]) cells slots ∧ T'.heap = h' ∧ Wr h h' a j.toNatClampNeg (.int (nar .byte x)) ∧ OAL Z h' a .byte (vs.set j.toNatClampNeg (nar .byte x)) ∧ ∀ t, Steps p.tables e below (T'.setTop (mkF m (pc + 1) Ls rest)) t → Steps p.tables e below (T.setTop (mkF m pc Ls (.int x :: .int j :: .ref a :: rest))) t := by
  obtain ⟨cl, A', r⟩ := A
  obtain ⟨T', h', X', e', W', st⟩ := Jvm.RoadKit.stB X hx hZ eT A' (j := j) (x := x) (own_into r q1 q2) (g := mkF m pc Ls (.int x :: .int j :: .ref a :: rest)) rfl rfl hd
  exact ⟨T', h', X', e', W', OAL.same ⟨cl, A', r⟩ W', st⟩
theorem OAL.stZ (X : Stand p l e R s m args below meth c T locs cells slots) (hx : p.tables.exec = Jvm.exec) (hZ : Z.Warmed39 s.vm) (eT : T.heap = h) (A : OAL Z h a .boolean vs) {j x : Int32} (q1 : ¬ j < 0) (q2 : j.toNatClampNeg < vs.length) {pc : Nat} {Ls : Array Slot} {rest : List Value} (hd : decode c.code pc = .ok (.bastore, 1)) :
    ∃ T' h', Stand p l e R s m args below meth c T' (locs ++ [⟨a, j.toNatClampNeg⟩]) cells slots ∧ T'.heap = h' ∧ Wr h h' a j.toNatClampNeg (.int (nar .boolean x)) ∧ OAL Z h' a .boolean (vs.set j.toNatClampNeg (nar .boolean x)) ∧ ∀ t, Steps p.tables e below (T'.setTop (mkF m (pc + 1) Ls rest)) t → Steps p.tables e below (T.setTop (mkF m pc Ls (.int x :: .int j :: .ref a :: rest))) t := by
  obtain ⟨cl, A', r⟩ := A
  obtain ⟨T', h', X', e', W', st⟩ := Jvm.RoadKit.stZ X hx hZ eT A' (j := j) (x := x) (own_into r q1 q2) (g := mkF m pc Ls (.int x :: .int j :: .ref a :: rest)) rfl rfl hd
  exact ⟨T', h', X', e', W', OAL.same ⟨cl, A', r⟩ W', st⟩
theorem OAL.stI (X : Stand p l e R s m args below meth c T locs cells slots) (hx : p.tables.exec = Jvm.exec) (hZ : Z.Warmed39 s.vm) (eT : T.heap = h) (A : OAL Z h a .int vs) {j x : Int32} (q1 : ¬ j < 0) (q2 : j.toNatClampNeg < vs.length) {pc : Nat} {Ls : Array Slot} {rest : List Value} (hd : decode c.code pc = .ok (.iastore, 1)) :
    ∃ T' h', Stand p l e R s m args below meth c T' (locs ++ [⟨a, j.toNatClampNeg⟩]) cells slots ∧ T'.heap = h' ∧ Wr h h' a j.toNatClampNeg (.int x) ∧ OAL Z h' a .int (vs.set j.toNatClampNeg x) ∧ ∀ t, Steps p.tables e below (T'.setTop (mkF m (pc + 1) Ls rest)) t → Steps p.tables e below (T.setTop (mkF m pc Ls (.int x :: .int j :: .ref a :: rest))) t := by
  obtain ⟨cl, A', r⟩ := A
  obtain ⟨T', h', X', e', W', st⟩ := Jvm.RoadKit.stI X hx hZ eT A' (j := j) (x := x) (own_into r q1 q2) (g := mkF m pc Ls (.int x :: .int j :: .ref a :: rest)) rfl rfl hd
  exact ⟨T', h', X', e', W', OAL.same ⟨cl, A', r⟩ W', st⟩
theorem OAJ.stJ (X : Stand p l e R s m args below meth c T locs cells slots) (hx : p.tables.exec = Jvm.exec) (hZ : Z.Warmed39 s.vm) (eT : T.heap = h) (A : OAJ Z h a us) {j : Int32} {x : Int64} (q1 : ¬ j < 0) (q2 : j.toNatClampNeg < us.length) {pc : Nat} {Ls : Array Slot} {rest : List Value} (hd : decode c.code pc = .ok (.lastore, 1)) :
    ∃ T' h', Stand p l e R s m args below meth c T' (locs ++ [⟨a, j.toNatClampNeg⟩]) cells slots ∧ T'.heap = h' ∧ Wr h h' a j.toNatClampNeg (.long x) ∧ OAJ Z h' a (us.set j.toNatClampNeg x) ∧ ∀ t, Steps p.tables e below (T'.setTop (mkF m (pc + 1) Ls rest)) t → Steps p.tables e below (T.setTop (mkF m pc Ls (.long x :: .int j :: .ref a :: rest))) t := by
  obtain ⟨cl, A', r⟩ := A
  obtain ⟨T', h', X', e', W', st⟩ := Jvm.RoadKit.stJ X hx hZ eT A' (j := j) (x := x) (own_into r q1 q2) (g := mkF m pc Ls (.long x :: .int j :: .ref a :: rest)) rfl rfl hd
  exact ⟨T', h', X', e', W', OAJ.same ⟨cl, A', r⟩ W', st⟩
end Own
end Jvm.RoadKit
namespace Jvm.Pilot.@@N@@
open Jvm Jvm.ClassFile Sem Op Lib Jvm.Free Jvm.Stand Jvm.LawKit Jvm.RoadKit Bundle Jvm.Pilot.@@N@@.Jvm.D
def own_pick (x : Int32) : Int32 := if x &&& 3 = 0 then nar .char 13 else if x &&& 3 = 1 then nar .char 10 else nar .char ((((x.toUInt32 >>> ((2 : Int32) &&& 31).toUInt32).toInt32) &&& 65535).toUInt32.toUInt16.toUInt32.toInt32)
def own_pl (c : Int32) (l : Int64) (f : Int32) : Int64 := if c = 13 then l + 1 else if c = 10 ∧ f = 0 then l + 1 else l
def own_pf (c : Int32) : Int32 := if c = 13 then 1 else 0
def own_ends (h p c : Int32) : Int64 := if c = 13 then 1 else if c = 10 then (if h = 0 then 1 else if p = 13 then 0 else 1) else 0
theorem own_s0 (c : Int32) : own_pl c 1 0 = 1 + own_ends 0 32 c := by
  unfold own_pl own_ends
  by_cases h1 : c = 13
  · simp [h1]
  · by_cases h2 : c = 10
    · simp [h2]
    · simp [h1, h2]
theorem own_s (c p : Int32) {l e : Int64} (h : l = e) : own_pl c l (own_pf p) = e + own_ends 1 p c := by
  subst h
  unfold own_pl own_ends own_pf
  by_cases h1 : c = 13
  · simp [h1]
  · by_cases h2 : c = 10
    · by_cases h3 : p = 13
      · simp [h2, h3]
      · simp [h2, h3]
    · simp [h1, h2]
theorem own_pn0 : plainName "org/surnia/io/LineCounterPassPinLaw" = true := by first | (simp [plainName, overriddenIn]; done) | decide +kernel
theorem ef_own_mpick (m : MethodId) (x0 : Int32) : entryFrame m #[(.int x0)] 2 = mkF m 0 #[.val (.int x0), .unset] [] := by first | (simp [entryFrame, mkF, argsToLocals, Value.category]; done) | rfl
theorem d1_0 : decode method_2_code 0 = .ok (.iload_n 0, 1) := by decide +kernel
theorem d1_1 : decode method_2_code 1 = .ok (.iconst 3, 1) := by decide +kernel
theorem d1_2 : decode method_2_code 2 = .ok (.iand, 1) := by decide +kernel
theorem d1_3 : decode method_2_code 3 = .ok (.istore_n 1, 1) := by decide +kernel
theorem d1_4 : decode method_2_code 4 = .ok (.iload_n 1, 1) := by decide +kernel
theorem d1_5 : decode method_2_code 5 = .ok (.ifCond .ne 6, 3) := by decide +kernel
theorem d1_8 : decode method_2_code 8 = .ok (.bipush 13, 2) := by decide +kernel
theorem d1_10 : decode method_2_code 10 = .ok (.ireturn, 1) := by decide +kernel
theorem d1_11 : decode method_2_code 11 = .ok (.iload_n 1, 1) := by decide +kernel
theorem d1_12 : decode method_2_code 12 = .ok (.iconst 1, 1) := by decide +kernel
theorem d1_13 : decode method_2_code 13 = .ok (.if_icmp .ne 6, 3) := by decide +kernel
theorem d1_16 : decode method_2_code 16 = .ok (.bipush 10, 2) := by decide +kernel
theorem d1_18 : decode method_2_code 18 = .ok (.ireturn, 1) := by decide +kernel
theorem d1_19 : decode method_2_code 19 = .ok (.iload_n 0, 1) := by decide +kernel
theorem d1_20 : decode method_2_code 20 = .ok (.iconst 2, 1) := by decide +kernel
theorem d1_21 : decode method_2_code 21 = .ok (.iushr, 1) := by decide +kernel
theorem d1_22 : decode method_2_code 22 = .ok (.ldc 7, 2) := by decide +kernel
theorem d1_24 : decode method_2_code 24 = .ok (.iand, 1) := by decide +kernel
theorem d1_25 : decode method_2_code 25 = .ok (.i2c, 1) := by decide +kernel
theorem d1_26 : decode method_2_code 26 = .ok (.ireturn, 1) := by decide +kernel
set_option maxRecDepth 65536 in
set_option maxHeartbeats 40000000 in
theorem own_mpick (l : Launch) (Z : State) (a0 : Array Value) (hw : ∀ d ∈ tables_1, d.before a0 Z = true) (ws : List Jvm.Cond) (vx : Int32) (h0 : Heap) (n0 : Nat) (Z0 : n0 ≤ h0.size)  :
    MetFree l (⟨"org/surnia/io/LineCounterPassPinLaw", "pick", "(I)C"⟩ : MethodName) (head1 (Jvm.Cond.code (⟨"org/surnia/io/LineCounterPassPinLaw", "pick", "(I)C"⟩ : MethodName) method_2_code 2 (some .char) :: ws) ({ frames := 0, cells := 0, slots := 0, locals := 0 } : Room)) (fun a U => a = #[(.int vx)] ∧ Z.Warmed39 U.vm ∧ U.heap = h0) (fun _ _ _ _ _ => True) (fun _ U o U' => ∃ v L, o = .returned v ∧ (OPure n0 h0 (some (.int (own_pick vx)))) v U'.heap L ∧ FrameEnd U o U' L ({ frames := 0, cells := 0, slots := 0, locals := 0 } : Room).cells ({ frames := 0, cells := 0, slots := 0, locals := 0 } : Room).slots) := by
  refine MetFree.of_bodySF (plainFor_of_name own_pn0) hisR ?_
  intro p e s m args below meth c s₁ Bd hml0 hP hK
  obtain ⟨rfl, hZ, hh⟩ := hP
  have hx := Bd.exec
  have hby := Bd.bytes
  have hret := Bd.returns
  have hlk : meth.locks = false := Bd.notSynchronized
  have hml : c.maxLocals = 2 := hml0
  have hown : s.vm.findClass "org/surnia/io/LineCounterPassPinLaw" = some m.cls := findClass_of_methodNamed Bd.named
  have hnm := (name_of_methodNamed Bd.named Bd.method).1
  have X0 : Stand p l e ({ frames := 0, cells := 0, slots := 0, locals := 0 } : Room) s m #[(.int vx)] below meth c s₁ [] 0 0 := Stand.of_body Bd
  have e0 : s₁.heap = h0 := by rw [← hh, Bd.state]; rfl
  have N0 := Fr.nil n0
  have pre0 : ∀ t, Steps p.tables e below (s₁.setTop (mkF m 0 #[.val (.int vx), .unset] [])) t → Steps p.tables e below (s₁.setTop (entryFrame m #[(.int vx)] 2)) t := fun t k => castTop (ef_own_mpick m vx) k
  show OGo p e below s (OPure n0 h0 (some (.int (own_pick vx)))) ({ frames := 0, cells := 0, slots := 0, locals := 0 } : Room).cells ({ frames := 0, cells := 0, slots := 0, locals := 0 } : Room).slots (s₁.setTop (entryFrame m #[(.int vx)] 2))
  refine OGo.on pre0 ?_
  show OGo p e below s _ _ _ (s₁.setTop (mkF m 0 #[.val (.int vx), .unset] []))
  refine OGo.on (fun t k => XS.iloadN X0.here hx rfl (hb hby d1_0) rfl k) ?_
  show OGo p e below s _ _ _ (s₁.setTop (mkF m 1 #[.val (.int vx), .unset] [(.int vx)]))
  refine OGo.on (fun t k => XS.iconst X0.here hx rfl (hb hby d1_1) k) ?_
  show OGo p e below s _ _ _ (s₁.setTop (mkF m 2 #[.val (.int vx), .unset] [(.int (3 : Int32)), (.int vx)]))
  refine OGo.on (fun t k => XS.iand X0.here hx rfl (hb hby d1_2) rfl k) ?_
  show OGo p e below s _ _ _ (s₁.setTop (mkF m 3 #[.val (.int vx), .unset] [(.int (vx &&& (3 : Int32)))]))
  refine OGo.on (fun t k => XS.istoreN X0.here hx rfl (hb hby d1_3) rfl (l' := #[.val (.int vx), .val (.int (vx &&& (3 : Int32)))]) rfl k) ?_
  show OGo p e below s _ _ _ (s₁.setTop (mkF m 4 #[.val (.int vx), .val (.int (vx &&& (3 : Int32)))] []))
  refine OGo.on (fun t k => XS.iloadN X0.here hx rfl (hb hby d1_4) rfl k) ?_
  show OGo p e below s _ _ _ (s₁.setTop (mkF m 5 #[.val (.int vx), .val (.int (vx &&& (3 : Int32)))] [(.int (vx &&& (3 : Int32)))]))
  by_cases hc1 : (vx &&& (3 : Int32)) = (0 : Int32)
  · refine OGo.on (fun t k => XS.ifNo X0.here hx rfl (hb hby d1_5) rfl ((if0 _ _).trans (teq hc1).2) k) ?_
    show OGo p e below s _ _ _ (s₁.setTop (mkF m 8 #[.val (.int vx), .val (.int (vx &&& (3 : Int32)))] []))
    refine OGo.on (fun t k => XS.bipush X0.here hx rfl (hb hby d1_8) k) ?_
    show OGo p e below s _ _ _ (s₁.setTop (mkF m 10 #[.val (.int vx), .val (.int (vx &&& (3 : Int32)))] [(.int (13 : Int32))]))
    exact OGo.retN X0 hx (t := .char) hret hlk (by simp) (hb hby d1_10) (opI (by simp [own_pick, hc1]) N0 e0) (by decide) (by decide)
  · refine OGo.on (fun t k => XS.ifYes X0.here hx rfl (pc0 := 5) (pc' := 11) rfl (hb hby d1_5) rfl ((if0 _ _).trans (feq hc1).2) (by decide) (by decide) k) ?_
    show OGo p e below s _ _ _ (s₁.setTop (mkF m 11 #[.val (.int vx), .val (.int (vx &&& (3 : Int32)))] []))
    refine OGo.on (fun t k => XS.iloadN X0.here hx rfl (hb hby d1_11) rfl k) ?_
    show OGo p e below s _ _ _ (s₁.setTop (mkF m 12 #[.val (.int vx), .val (.int (vx &&& (3 : Int32)))] [(.int (vx &&& (3 : Int32)))]))
    refine OGo.on (fun t k => XS.iconst X0.here hx rfl (hb hby d1_12) k) ?_
    show OGo p e below s _ _ _ (s₁.setTop (mkF m 13 #[.val (.int vx), .val (.int (vx &&& (3 : Int32)))] [(.int (1 : Int32)), (.int (vx &&& (3 : Int32)))]))
    by_cases hc2 : (vx &&& (3 : Int32)) = (1 : Int32)
    · refine OGo.on (fun t k => XS.icmpNo X0.here hx rfl (hb hby d1_13) rfl (teq hc2).2 k) ?_
      show OGo p e below s _ _ _ (s₁.setTop (mkF m 16 #[.val (.int vx), .val (.int (vx &&& (3 : Int32)))] []))
      refine OGo.on (fun t k => XS.bipush X0.here hx rfl (hb hby d1_16) k) ?_
      show OGo p e below s _ _ _ (s₁.setTop (mkF m 18 #[.val (.int vx), .val (.int (vx &&& (3 : Int32)))] [(.int (10 : Int32))]))
      exact OGo.retN X0 hx (t := .char) hret hlk (by simp) (hb hby d1_18) (opI (by simp [own_pick, hc1, hc2]) N0 e0) (by decide) (by decide)
    · refine OGo.on (fun t k => XS.icmpYes X0.here hx rfl (pc0 := 13) (pc' := 19) rfl (hb hby d1_13) rfl (feq hc2).2 (by decide) (by decide) k) ?_
      show OGo p e below s _ _ _ (s₁.setTop (mkF m 19 #[.val (.int vx), .val (.int (vx &&& (3 : Int32)))] []))
      refine OGo.on (fun t k => XS.iloadN X0.here hx rfl (hb hby d1_19) rfl k) ?_
      show OGo p e below s _ _ _ (s₁.setTop (mkF m 20 #[.val (.int vx), .val (.int (vx &&& (3 : Int32)))] [(.int vx)]))
      refine OGo.on (fun t k => XS.iconst X0.here hx rfl (hb hby d1_20) k) ?_
      show OGo p e below s _ _ _ (s₁.setTop (mkF m 21 #[.val (.int vx), .val (.int (vx &&& (3 : Int32)))] [(.int (2 : Int32)), (.int vx)]))
      refine OGo.on (fun t k => XS.iushr X0.here hx rfl (hb hby d1_21) rfl k) ?_
      show OGo p e below s _ _ _ (s₁.setTop (mkF m 22 #[.val (.int vx), .val (.int (vx &&& (3 : Int32)))] [(.int ((vx.toUInt32 >>> ((2 : Int32) &&& 31).toUInt32).toInt32))]))
      refine OGo.on (fun t k => X0.ldcI hx hown (mvT hZ (hw _ (List.mem_of_getElem? (i := 4) rfl))) (g := (mkF m 22 #[.val (.int vx), .val (.int (vx &&& (3 : Int32)))] [(.int ((vx.toUInt32 >>> ((2 : Int32) &&& 31).toUInt32).toInt32))])) rfl (hb hby d1_22) k) ?_
      show OGo p e below s _ _ _ (s₁.setTop (mkF m 24 #[.val (.int vx), .val (.int (vx &&& (3 : Int32)))] [(.int (65535 : Int32)), (.int ((vx.toUInt32 >>> ((2 : Int32) &&& 31).toUInt32).toInt32))]))
      refine OGo.on (fun t k => XS.iand X0.here hx rfl (hb hby d1_24) rfl k) ?_
      show OGo p e below s _ _ _ (s₁.setTop (mkF m 25 #[.val (.int vx), .val (.int (vx &&& (3 : Int32)))] [(.int (((vx.toUInt32 >>> ((2 : Int32) &&& 31).toUInt32).toInt32) &&& (65535 : Int32)))]))
      refine OGo.on (fun t k => XS.i2c X0.here hx rfl (hb hby d1_25) rfl k) ?_
      show OGo p e below s _ _ _ (s₁.setTop (mkF m 26 #[.val (.int vx), .val (.int (vx &&& (3 : Int32)))] [(.int ((((vx.toUInt32 >>> ((2 : Int32) &&& 31).toUInt32).toInt32) &&& (65535 : Int32)).toUInt32.toUInt16.toUInt32.toInt32))]))
      exact OGo.retN X0 hx (t := .char) hret hlk (by simp) (hb hby d1_26) (opI (by simp [own_pick, hc1, hc2]) N0 e0) (by decide) (by decide)
theorem ef_own_mends (m : MethodId) (x0 : Int32) (x1 : Int32) (x2 : Int32) : entryFrame m #[(.int x0), (.int x1), (.int x2)] 3 = mkF m 0 #[.val (.int x0), .val (.int x1), .val (.int x2)] [] := by first | (simp [entryFrame, mkF, argsToLocals, Value.category]; done) | rfl
theorem d6_0 : decode method_3_code 0 = .ok (.iload_n 2, 1) := by decide +kernel
theorem d6_1 : decode method_3_code 1 = .ok (.bipush 13, 2) := by decide +kernel
theorem d6_3 : decode method_3_code 3 = .ok (.if_icmp .ne 5, 3) := by decide +kernel
theorem d6_6 : decode method_3_code 6 = .ok (.lconst 1, 1) := by decide +kernel
theorem d6_7 : decode method_3_code 7 = .ok (.lreturn, 1) := by decide +kernel
theorem d6_8 : decode method_3_code 8 = .ok (.iload_n 2, 1) := by decide +kernel
theorem d6_9 : decode method_3_code 9 = .ok (.bipush 10, 2) := by decide +kernel
theorem d6_11 : decode method_3_code 11 = .ok (.if_icmp .ne 17, 3) := by decide +kernel
theorem d6_14 : decode method_3_code 14 = .ok (.iload_n 0, 1) := by decide +kernel
theorem d6_15 : decode method_3_code 15 = .ok (.ifCond .eq 11, 3) := by decide +kernel
theorem d6_18 : decode method_3_code 18 = .ok (.iload_n 1, 1) := by decide +kernel
theorem d6_19 : decode method_3_code 19 = .ok (.bipush 13, 2) := by decide +kernel
theorem d6_21 : decode method_3_code 21 = .ok (.if_icmp .ne 5, 3) := by decide +kernel
theorem d6_24 : decode method_3_code 24 = .ok (.lconst 0, 1) := by decide +kernel
theorem d6_25 : decode method_3_code 25 = .ok (.lreturn, 1) := by decide +kernel
theorem d6_26 : decode method_3_code 26 = .ok (.lconst 1, 1) := by decide +kernel
theorem d6_27 : decode method_3_code 27 = .ok (.lreturn, 1) := by decide +kernel
theorem d6_28 : decode method_3_code 28 = .ok (.lconst 0, 1) := by decide +kernel
theorem d6_29 : decode method_3_code 29 = .ok (.lreturn, 1) := by decide +kernel
set_option maxRecDepth 65536 in
set_option maxHeartbeats 40000000 in
theorem own_mends (l : Launch) (Z : State) (a0 : Array Value) (hw : ∀ d ∈ tables_1, d.before a0 Z = true) (ws : List Jvm.Cond) (vh vp vc : Int32) (h0 : Heap) (n0 : Nat) (Z0 : n0 ≤ h0.size)  :
    MetFree l (⟨"org/surnia/io/LineCounterPassPinLaw", "ends", "(ZCC)J"⟩ : MethodName) (head1 (Jvm.Cond.code (⟨"org/surnia/io/LineCounterPassPinLaw", "ends", "(ZCC)J"⟩ : MethodName) method_3_code 3 (some .long) :: ws) ({ frames := 0, cells := 0, slots := 0, locals := 0 } : Room)) (fun a U => a = #[(.int vh), (.int vp), (.int vc)] ∧ Z.Warmed39 U.vm ∧ U.heap = h0) (fun _ _ _ _ _ => True) (fun _ U o U' => ∃ v L, o = .returned v ∧ (OPure n0 h0 (some (.long (own_ends vh vp vc)))) v U'.heap L ∧ FrameEnd U o U' L ({ frames := 0, cells := 0, slots := 0, locals := 0 } : Room).cells ({ frames := 0, cells := 0, slots := 0, locals := 0 } : Room).slots) := by
  refine MetFree.of_bodySF (plainFor_of_name own_pn0) hisR ?_
  intro p e s m args below meth c s₁ Bd hml0 hP hK
  obtain ⟨rfl, hZ, hh⟩ := hP
  have hx := Bd.exec
  have hby := Bd.bytes
  have hret := Bd.returns
  have hlk : meth.locks = false := Bd.notSynchronized
  have hml : c.maxLocals = 3 := hml0
  have hown : s.vm.findClass "org/surnia/io/LineCounterPassPinLaw" = some m.cls := findClass_of_methodNamed Bd.named
  have hnm := (name_of_methodNamed Bd.named Bd.method).1
  have X0 : Stand p l e ({ frames := 0, cells := 0, slots := 0, locals := 0 } : Room) s m #[(.int vh), (.int vp), (.int vc)] below meth c s₁ [] 0 0 := Stand.of_body Bd
  have e0 : s₁.heap = h0 := by rw [← hh, Bd.state]; rfl
  have N0 := Fr.nil n0
  have pre0 : ∀ t, Steps p.tables e below (s₁.setTop (mkF m 0 #[.val (.int vh), .val (.int vp), .val (.int vc)] [])) t → Steps p.tables e below (s₁.setTop (entryFrame m #[(.int vh), (.int vp), (.int vc)] 3)) t := fun t k => castTop (ef_own_mends m vh vp vc) k
  show OGo p e below s (OPure n0 h0 (some (.long (own_ends vh vp vc)))) ({ frames := 0, cells := 0, slots := 0, locals := 0 } : Room).cells ({ frames := 0, cells := 0, slots := 0, locals := 0 } : Room).slots (s₁.setTop (entryFrame m #[(.int vh), (.int vp), (.int vc)] 3))
  refine OGo.on pre0 ?_
  show OGo p e below s _ _ _ (s₁.setTop (mkF m 0 #[.val (.int vh), .val (.int vp), .val (.int vc)] []))
  refine OGo.on (fun t k => XS.iloadN X0.here hx rfl (hb hby d6_0) rfl k) ?_
  show OGo p e below s _ _ _ (s₁.setTop (mkF m 1 #[.val (.int vh), .val (.int vp), .val (.int vc)] [(.int vc)]))
  refine OGo.on (fun t k => XS.bipush X0.here hx rfl (hb hby d6_1) k) ?_
  show OGo p e below s _ _ _ (s₁.setTop (mkF m 3 #[.val (.int vh), .val (.int vp), .val (.int vc)] [(.int (13 : Int32)), (.int vc)]))
  by_cases hc3 : vc = (13 : Int32)
  · refine OGo.on (fun t k => XS.icmpNo X0.here hx rfl (hb hby d6_3) rfl (teq hc3).2 k) ?_
    show OGo p e below s _ _ _ (s₁.setTop (mkF m 6 #[.val (.int vh), .val (.int vp), .val (.int vc)] []))
    refine OGo.on (fun t k => XS.lconst X0.here hx rfl (hb hby d6_6) k) ?_
    show OGo p e below s _ _ _ (s₁.setTop (mkF m 7 #[.val (.int vh), .val (.int vp), .val (.int vc)] [(.long (1 : Int64))]))
    exact OGo.retJ X0 hx hret hlk (hb hby d6_7) (opJ (by simp [own_ends, hc3]) N0 e0) (by decide) (by decide)
  · refine OGo.on (fun t k => XS.icmpYes X0.here hx rfl (pc0 := 3) (pc' := 8) rfl (hb hby d6_3) rfl (feq hc3).2 (by decide) (by decide) k) ?_
    show OGo p e below s _ _ _ (s₁.setTop (mkF m 8 #[.val (.int vh), .val (.int vp), .val (.int vc)] []))
    refine OGo.on (fun t k => XS.iloadN X0.here hx rfl (hb hby d6_8) rfl k) ?_
    show OGo p e below s _ _ _ (s₁.setTop (mkF m 9 #[.val (.int vh), .val (.int vp), .val (.int vc)] [(.int vc)]))
    refine OGo.on (fun t k => XS.bipush X0.here hx rfl (hb hby d6_9) k) ?_
    show OGo p e below s _ _ _ (s₁.setTop (mkF m 11 #[.val (.int vh), .val (.int vp), .val (.int vc)] [(.int (10 : Int32)), (.int vc)]))
    by_cases hc4 : vc = (10 : Int32)
    · refine OGo.on (fun t k => XS.icmpNo X0.here hx rfl (hb hby d6_11) rfl (teq hc4).2 k) ?_
      show OGo p e below s _ _ _ (s₁.setTop (mkF m 14 #[.val (.int vh), .val (.int vp), .val (.int vc)] []))
      refine OGo.on (fun t k => XS.iloadN X0.here hx rfl (hb hby d6_14) rfl k) ?_
      show OGo p e below s _ _ _ (s₁.setTop (mkF m 15 #[.val (.int vh), .val (.int vp), .val (.int vc)] [(.int vh)]))
      by_cases hc5 : vh = (0 : Int32)
      · refine OGo.on (fun t k => XS.ifYes X0.here hx rfl (pc0 := 15) (pc' := 26) rfl (hb hby d6_15) rfl ((if0 _ _).trans (teq hc5).1) (by decide) (by decide) k) ?_
        show OGo p e below s _ _ _ (s₁.setTop (mkF m 26 #[.val (.int vh), .val (.int vp), .val (.int vc)] []))
        refine OGo.on (fun t k => XS.lconst X0.here hx rfl (hb hby d6_26) k) ?_
        show OGo p e below s _ _ _ (s₁.setTop (mkF m 27 #[.val (.int vh), .val (.int vp), .val (.int vc)] [(.long (1 : Int64))]))
        exact OGo.retJ X0 hx hret hlk (hb hby d6_27) (opJ (by simp [own_ends, hc3, hc4, hc5]) N0 e0) (by decide) (by decide)
      · refine OGo.on (fun t k => XS.ifNo X0.here hx rfl (hb hby d6_15) rfl ((if0 _ _).trans (feq hc5).1) k) ?_
        show OGo p e below s _ _ _ (s₁.setTop (mkF m 18 #[.val (.int vh), .val (.int vp), .val (.int vc)] []))
        refine OGo.on (fun t k => XS.iloadN X0.here hx rfl (hb hby d6_18) rfl k) ?_
        show OGo p e below s _ _ _ (s₁.setTop (mkF m 19 #[.val (.int vh), .val (.int vp), .val (.int vc)] [(.int vp)]))
        refine OGo.on (fun t k => XS.bipush X0.here hx rfl (hb hby d6_19) k) ?_
        show OGo p e below s _ _ _ (s₁.setTop (mkF m 21 #[.val (.int vh), .val (.int vp), .val (.int vc)] [(.int (13 : Int32)), (.int vp)]))
        by_cases hc6 : vp = (13 : Int32)
        · refine OGo.on (fun t k => XS.icmpNo X0.here hx rfl (hb hby d6_21) rfl (teq hc6).2 k) ?_
          show OGo p e below s _ _ _ (s₁.setTop (mkF m 24 #[.val (.int vh), .val (.int vp), .val (.int vc)] []))
          refine OGo.on (fun t k => XS.lconst X0.here hx rfl (hb hby d6_24) k) ?_
          show OGo p e below s _ _ _ (s₁.setTop (mkF m 25 #[.val (.int vh), .val (.int vp), .val (.int vc)] [(.long (0 : Int64))]))
          exact OGo.retJ X0 hx hret hlk (hb hby d6_25) (opJ (by simp [own_ends, hc3, hc4, hc5, hc6]) N0 e0) (by decide) (by decide)
        · refine OGo.on (fun t k => XS.icmpYes X0.here hx rfl (pc0 := 21) (pc' := 26) rfl (hb hby d6_21) rfl (feq hc6).2 (by decide) (by decide) k) ?_
          show OGo p e below s _ _ _ (s₁.setTop (mkF m 26 #[.val (.int vh), .val (.int vp), .val (.int vc)] []))
          refine OGo.on (fun t k => XS.lconst X0.here hx rfl (hb hby d6_26) k) ?_
          show OGo p e below s _ _ _ (s₁.setTop (mkF m 27 #[.val (.int vh), .val (.int vp), .val (.int vc)] [(.long (1 : Int64))]))
          exact OGo.retJ X0 hx hret hlk (hb hby d6_27) (opJ (by simp [own_ends, hc3, hc4, hc5, hc6]) N0 e0) (by decide) (by decide)
    · refine OGo.on (fun t k => XS.icmpYes X0.here hx rfl (pc0 := 11) (pc' := 28) rfl (hb hby d6_11) rfl (feq hc4).2 (by decide) (by decide) k) ?_
      show OGo p e below s _ _ _ (s₁.setTop (mkF m 28 #[.val (.int vh), .val (.int vp), .val (.int vc)] []))
      refine OGo.on (fun t k => XS.lconst X0.here hx rfl (hb hby d6_28) k) ?_
      show OGo p e below s _ _ _ (s₁.setTop (mkF m 29 #[.val (.int vh), .val (.int vp), .val (.int vc)] [(.long (0 : Int64))]))
      exact OGo.retJ X0 hx hret hlk (hb hby d6_29) (opJ (by simp [own_ends, hc3, hc4]) N0 e0) (by decide) (by decide)
theorem own_pn1 : plainName "org/surnia/io/LineCounter" = true := by first | (simp [plainName, overriddenIn]; done) | decide +kernel
theorem ef_own_mline (m : MethodId) (x0 : Addr) : entryFrame m #[(.ref x0)] 1 = mkF m 0 #[.val (.ref x0)] [] := by first | (simp [entryFrame, mkF, argsToLocals, Value.category]; done) | rfl
theorem d4_0 : decode prog_28_method_2_code 0 = .ok (.aload_n 0, 1) := by decide +kernel
theorem d4_1 : decode prog_28_method_2_code 1 = .ok (.getfield 7, 3) := by decide +kernel
theorem d4_4 : decode prog_28_method_2_code 4 = .ok (.lreturn, 1) := by decide +kernel
set_option maxRecDepth 65536 in
set_option maxHeartbeats 40000000 in
theorem own_mline (l : Launch) (Z : State) (a0 : Array Value) (hw : ∀ d ∈ tables_1, d.before a0 Z = true) (ws : List Jvm.Cond) (ra : Addr) (vl : Int64) (h0 : Heap) (n0 : Nat) (Z0 : n0 ≤ h0.size) (F0 : Fld Z h0 ra "org/surnia/io/LineCounter" "line" "J" (.long vl)) :
    MetFree l (⟨"org/surnia/io/LineCounter", "line", "()J"⟩ : MethodName) (head1 (Jvm.Cond.code (⟨"org/surnia/io/LineCounter", "line", "()J"⟩ : MethodName) prog_28_method_2_code 1 (some .long) :: ws) ({ frames := 0, cells := 0, slots := 0, locals := 0 } : Room)) (fun a U => a = #[(.ref ra)] ∧ Z.Warmed39 U.vm ∧ U.heap = h0) (fun _ _ _ _ _ => True) (fun _ U o U' => ∃ v L, o = .returned v ∧ (OPure n0 h0 (some (.long vl))) v U'.heap L ∧ FrameEnd U o U' L ({ frames := 0, cells := 0, slots := 0, locals := 0 } : Room).cells ({ frames := 0, cells := 0, slots := 0, locals := 0 } : Room).slots) := by
  refine MetFree.of_bodySF (plainFor_of_name own_pn1) hisR ?_
  intro p e s m args below meth c s₁ Bd hml0 hP hK
  obtain ⟨rfl, hZ, hh⟩ := hP
  have hx := Bd.exec
  have hby := Bd.bytes
  have hret := Bd.returns
  have hlk : meth.locks = false := Bd.notSynchronized
  have hml : c.maxLocals = 1 := hml0
  have hown : s.vm.findClass "org/surnia/io/LineCounter" = some m.cls := findClass_of_methodNamed Bd.named
  have hnm := (name_of_methodNamed Bd.named Bd.method).1
  have X0 : Stand p l e ({ frames := 0, cells := 0, slots := 0, locals := 0 } : Room) s m #[(.ref ra)] below meth c s₁ [] 0 0 := Stand.of_body Bd
  have e0 : s₁.heap = h0 := by rw [← hh, Bd.state]; rfl
  have N0 := Fr.nil n0
  have pre0 : ∀ t, Steps p.tables e below (s₁.setTop (mkF m 0 #[.val (.ref ra)] [])) t → Steps p.tables e below (s₁.setTop (entryFrame m #[(.ref ra)] 1)) t := fun t k => castTop (ef_own_mline m ra) k
  show OGo p e below s (OPure n0 h0 (some (.long vl))) ({ frames := 0, cells := 0, slots := 0, locals := 0 } : Room).cells ({ frames := 0, cells := 0, slots := 0, locals := 0 } : Room).slots (s₁.setTop (entryFrame m #[(.ref ra)] 1))
  refine OGo.on pre0 ?_
  show OGo p e below s _ _ _ (s₁.setTop (mkF m 0 #[.val (.ref ra)] []))
  refine OGo.on (fun t k => XS.aloadN X0.here hx rfl (hb hby d4_0) rfl rfl k) ?_
  show OGo p e below s _ _ _ (s₁.setTop (mkF m 1 #[.val (.ref ra)] [(.ref ra)]))
  obtain ⟨T7, X7, e7, st7⟩ := getF X0 hx hZ hown (host := "") (Or.inl (hw _ (List.mem_of_getElem? (i := 14) rfl))) Via.refl e0 F0 (g := (mkF m 1 #[.val (.ref ra)] [(.ref ra)])) rfl rfl (hb hby d4_1)
  refine OGo.on st7 ?_
  show OGo p e below s _ _ _ (T7.setTop (mkF m 4 #[.val (.ref ra)] [(.long vl)]))
  exact OGo.retJ X7 hx hret hlk (hb hby d4_4) (opJ rfl N0 e7) (by decide) (by decide)
def Q_own_minit (Z : State) (ra : Addr) (h0 : Heap) (n0 : Nat) (v : Option Value) (h : Heap) (L : List Loc) : Prop := v = none ∧ Fr n0 L ∧ Keep h0 h [ra] ∧ Fld Z h ra "org/surnia/io/LineCounter" "line" "J" (.long (1 : Int64)) ∧ Fld Z h ra "org/surnia/io/LineCounter" "afterCarriageReturn" "Z" (.int (0 : Int32))
theorem own_pd0 : parseMethodDescriptor "()V" = some ⟨[], none⟩ := by decide +kernel
theorem ef_own_minit (m : MethodId) (x0 : Addr) : entryFrame m #[(.ref x0)] 1 = mkF m 0 #[.val (.ref x0)] [] := by first | (simp [entryFrame, mkF, argsToLocals, Value.category]; done) | rfl
theorem d2_0 : decode prog_28_method_1_code 0 = .ok (.aload_n 0, 1) := by decide +kernel
theorem d2_1 : decode prog_28_method_1_code 1 = .ok (.invokespecial 1, 3) := by decide +kernel
theorem d2_4 : decode prog_28_method_1_code 4 = .ok (.aload_n 0, 1) := by decide +kernel
theorem d2_5 : decode prog_28_method_1_code 5 = .ok (.lconst 1, 1) := by decide +kernel
theorem d2_6 : decode prog_28_method_1_code 6 = .ok (.putfield 7, 3) := by decide +kernel
theorem d2_9 : decode prog_28_method_1_code 9 = .ok (.return_, 1) := by decide +kernel
set_option maxRecDepth 65536 in
set_option maxHeartbeats 40000000 in
theorem own_minit (l : Launch) (Z : State) (a0 : Array Value) (hw : ∀ d ∈ tables_1, d.before a0 Z = true) (ws : List Jvm.Cond) (ra : Addr) (h0 : Heap) (n0 : Nat) (Z0 : n0 ≤ h0.size) (g_ra : n0 ≤ ra) (E_ra : Exa Z h0 ra "org/surnia/io/LineCounter") (F_line_ra : Fld Z h0 ra "org/surnia/io/LineCounter" "line" "J" (.long (0 : Int64))) (F_afterCarriageReturn_ra : Fld Z h0 ra "org/surnia/io/LineCounter" "afterCarriageReturn" "Z" (.int (0 : Int32)))  :
    MetFree l (⟨"org/surnia/io/LineCounter", "<init>", "()V"⟩ : MethodName) (head1 (Jvm.Cond.code (⟨"org/surnia/io/LineCounter", "<init>", "()V"⟩ : MethodName) prog_28_method_1_code 1 none :: ws) ({ frames := 1, cells := 0, slots := 0, locals := 12 } : Room)) (fun a U => a = #[(.ref ra)] ∧ Z.Warmed39 U.vm ∧ U.heap = h0) (fun _ _ _ _ _ => True) (fun _ U o U' => ∃ v L, o = .returned v ∧ (Q_own_minit Z ra h0 n0) v U'.heap L ∧ FrameEnd U o U' L ({ frames := 1, cells := 0, slots := 0, locals := 12 } : Room).cells ({ frames := 1, cells := 0, slots := 0, locals := 12 } : Room).slots) := by
  refine MetFree.of_bodySF (plainFor_of_name own_pn1) hisR ?_
  intro p e s m args below meth c s₁ Bd hml0 hP hK
  obtain ⟨rfl, hZ, hh⟩ := hP
  have hx := Bd.exec
  have hby := Bd.bytes
  have hret := Bd.returns
  have hlk : meth.locks = false := Bd.notSynchronized
  have hml : c.maxLocals = 1 := hml0
  have hown : s.vm.findClass "org/surnia/io/LineCounter" = some m.cls := findClass_of_methodNamed Bd.named
  have hnm := (name_of_methodNamed Bd.named Bd.method).1
  have X0 : Stand p l e ({ frames := 1, cells := 0, slots := 0, locals := 12 } : Room) s m #[(.ref ra)] below meth c s₁ [] 0 0 := Stand.of_body Bd
  have e0 : s₁.heap = h0 := by rw [← hh, Bd.state]; rfl
  have N0 := Fr.nil n0
  have pre0 : ∀ t, Steps p.tables e below (s₁.setTop (mkF m 0 #[.val (.ref ra)] [])) t → Steps p.tables e below (s₁.setTop (entryFrame m #[(.ref ra)] 1)) t := fun t k => castTop (ef_own_minit m ra) k
  have K0 : Keep h0 h0 [ra] := Keep.refl _ _
  show OGo p e below s (Q_own_minit Z ra h0 n0) ({ frames := 1, cells := 0, slots := 0, locals := 12 } : Room).cells ({ frames := 1, cells := 0, slots := 0, locals := 12 } : Room).slots (s₁.setTop (entryFrame m #[(.ref ra)] 1))
  refine OGo.on pre0 ?_
  show OGo p e below s _ _ _ (s₁.setTop (mkF m 0 #[.val (.ref ra)] []))
  refine OGo.on (fun t k => XS.aloadN X0.here hx rfl (hb hby d2_0) rfl rfl k) ?_
  show OGo p e below s _ _ _ (s₁.setTop (mkF m 1 #[.val (.ref ra)] [(.ref ra)]))
  obtain ⟨T8, X8, e8, st8⟩ := initO X0 hx hZ hown (hw _ (List.mem_of_getElem? (i := 11) rfl)) (hw _ (List.mem_of_getElem? (i := 12) rfl)) (hw _ (List.mem_of_getElem? (i := 13) rfl)) e0 (g := (mkF m 1 #[.val (.ref ra)] [(.ref ra)])) rfl (by rw [hml]; rfl) rfl (hb hby d2_1) (by decide) (W := 0) (by show 2 * 0 + _ ≤ _; exact Nat.le_of_eq rfl) (by decide)
  refine OGo.on st8 ?_
  show OGo p e below s _ _ _ (T8.setTop (mkF m 4 #[.val (.ref ra)] []))
  refine OGo.on (fun t k => XS.aloadN X8.here hx rfl (hb hby d2_4) rfl rfl k) ?_
  show OGo p e below s _ _ _ (T8.setTop (mkF m 5 #[.val (.ref ra)] [(.ref ra)]))
  refine OGo.on (fun t k => XS.lconst X8.here hx rfl (hb hby d2_5) k) ?_
  show OGo p e below s _ _ _ (T8.setTop (mkF m 6 #[.val (.ref ra)] [(.long (1 : Int64)), (.ref ra)]))
  obtain ⟨T9, h9, X9, e9, W9, st9⟩ := putF X8 hx hZ hown (host := "") (Or.inl (hw _ (List.mem_of_getElem? (i := 14) rfl))) Via.refl e8 F_line_ra E_ra (Or.inl (hw _ (List.mem_of_getElem? (i := 15) rfl))) (hw _ (List.mem_of_getElem? (i := 6) rfl)) (ty := .long) (by decide) rfl rfl (g := (mkF m 6 #[.val (.ref ra)] [(.long (1 : Int64)), (.ref ra)])) rfl rfl (hb hby d2_6)
  have f10 : Exa Z h9 ra "org/surnia/io/LineCounter" := E_ra.wr W9
  have f11 : Fld Z h9 ra "org/surnia/io/LineCounter" "afterCarriageReturn" "Z" (.int (0 : Int32)) := F_afterCarriageReturn_ra.other W9 (Or.inr (slot_ne (Or.inl (hw _ (List.mem_of_getElem? (i := 27) rfl))) (Or.inl (hw _ (List.mem_of_getElem? (i := 15) rfl))) (by decide) (t := .boolean) (t' := .long) (by decide) (by decide)))
  have Z12 : n0 ≤ h9.size := Nat.le_trans Z0 (Nat.le_of_eq W9.size.symm)
  have N13 := Fr.snoc X9 N0 g_ra
  have K14 : Keep h0 h9 [ra] := K0.wr W9 (Or.inl (List.mem_of_getElem? (i := 0) rfl))
  have f15 : Fld Z h9 ra "org/surnia/io/LineCounter" "line" "J" (.long (1 : Int64)) := F_line_ra.same W9
  refine OGo.on st9 ?_
  show OGo p e below s _ _ _ (T9.setTop (mkF m 9 #[.val (.ref ra)] []))
  exact OGo.ret0 X9 hx hret hlk (hb hby d2_9) ⟨rfl, N13, by rw [e9]; exact K14, by rw [e9]; exact f15, by rw [e9]; exact f11⟩ (by decide) (by decide)
def Q_own_mpass (Z : State) (ra : Addr) (vc : Int32) (vl : Int64) (vf : Int32) (h0 : Heap) (n0 : Nat) (v : Option Value) (h : Heap) (L : List Loc) : Prop := v = none ∧ Fr n0 L ∧ Keep h0 h [ra] ∧ Fld Z h ra "org/surnia/io/LineCounter" "line" "J" (.long (own_pl vc vl vf)) ∧ Fld Z h ra "org/surnia/io/LineCounter" "afterCarriageReturn" "Z" (.int (own_pf vc))
theorem ef_own_mpass (m : MethodId) (x0 : Addr) (x1 : Int32) : entryFrame m #[(.ref x0), (.int x1)] 2 = mkF m 0 #[.val (.ref x0), .val (.int x1)] [] := by first | (simp [entryFrame, mkF, argsToLocals, Value.category]; done) | rfl
theorem d5_0 : decode prog_28_method_3_code 0 = .ok (.iload_n 1, 1) := by decide +kernel
theorem d5_1 : decode prog_28_method_3_code 1 = .ok (.bipush 13, 2) := by decide +kernel
theorem d5_3 : decode prog_28_method_3_code 3 = .ok (.if_icmp .ne 21, 3) := by decide +kernel
theorem d5_6 : decode prog_28_method_3_code 6 = .ok (.aload_n 0, 1) := by decide +kernel
theorem d5_7 : decode prog_28_method_3_code 7 = .ok (.dup, 1) := by decide +kernel
theorem d5_8 : decode prog_28_method_3_code 8 = .ok (.getfield 7, 3) := by decide +kernel
theorem d5_11 : decode prog_28_method_3_code 11 = .ok (.lconst 1, 1) := by decide +kernel
theorem d5_12 : decode prog_28_method_3_code 12 = .ok (.ladd, 1) := by decide +kernel
theorem d5_13 : decode prog_28_method_3_code 13 = .ok (.putfield 7, 3) := by decide +kernel
theorem d5_16 : decode prog_28_method_3_code 16 = .ok (.aload_n 0, 1) := by decide +kernel
theorem d5_17 : decode prog_28_method_3_code 17 = .ok (.iconst 1, 1) := by decide +kernel
theorem d5_18 : decode prog_28_method_3_code 18 = .ok (.putfield 13, 3) := by decide +kernel
theorem d5_21 : decode prog_28_method_3_code 21 = .ok (.goto 31, 3) := by decide +kernel
theorem d5_24 : decode prog_28_method_3_code 24 = .ok (.iload_n 1, 1) := by decide +kernel
theorem d5_25 : decode prog_28_method_3_code 25 = .ok (.bipush 10, 2) := by decide +kernel
theorem d5_27 : decode prog_28_method_3_code 27 = .ok (.if_icmp .ne 20, 3) := by decide +kernel
theorem d5_30 : decode prog_28_method_3_code 30 = .ok (.aload_n 0, 1) := by decide +kernel
theorem d5_31 : decode prog_28_method_3_code 31 = .ok (.getfield 13, 3) := by decide +kernel
theorem d5_34 : decode prog_28_method_3_code 34 = .ok (.ifCond .ne 13, 3) := by decide +kernel
theorem d5_37 : decode prog_28_method_3_code 37 = .ok (.aload_n 0, 1) := by decide +kernel
theorem d5_38 : decode prog_28_method_3_code 38 = .ok (.dup, 1) := by decide +kernel
theorem d5_39 : decode prog_28_method_3_code 39 = .ok (.getfield 7, 3) := by decide +kernel
theorem d5_42 : decode prog_28_method_3_code 42 = .ok (.lconst 1, 1) := by decide +kernel
theorem d5_43 : decode prog_28_method_3_code 43 = .ok (.ladd, 1) := by decide +kernel
theorem d5_44 : decode prog_28_method_3_code 44 = .ok (.putfield 7, 3) := by decide +kernel
theorem d5_47 : decode prog_28_method_3_code 47 = .ok (.aload_n 0, 1) := by decide +kernel
theorem d5_48 : decode prog_28_method_3_code 48 = .ok (.iconst 0, 1) := by decide +kernel
theorem d5_49 : decode prog_28_method_3_code 49 = .ok (.putfield 13, 3) := by decide +kernel
theorem d5_52 : decode prog_28_method_3_code 52 = .ok (.return_, 1) := by decide +kernel
set_option maxRecDepth 65536 in
set_option maxHeartbeats 40000000 in
theorem own_mpass (l : Launch) (Z : State) (a0 : Array Value) (hw : ∀ d ∈ tables_1, d.before a0 Z = true) (ws : List Jvm.Cond) (ra : Addr) (vc : Int32) (vl : Int64) (vf : Int32) (h0 : Heap) (n0 : Nat) (Z0 : n0 ≤ h0.size) (g_ra : n0 ≤ ra) (E_ra : Exa Z h0 ra "org/surnia/io/LineCounter") (F_line_ra : Fld Z h0 ra "org/surnia/io/LineCounter" "line" "J" (.long vl)) (F_afterCarriageReturn_ra : Fld Z h0 ra "org/surnia/io/LineCounter" "afterCarriageReturn" "Z" (.int vf))  :
    MetFree l (⟨"org/surnia/io/LineCounter", "pass", "(C)V"⟩ : MethodName) (head1 (Jvm.Cond.code (⟨"org/surnia/io/LineCounter", "pass", "(C)V"⟩ : MethodName) prog_28_method_3_code 2 none :: ws) ({ frames := 0, cells := 0, slots := 0, locals := 0 } : Room)) (fun a U => a = #[(.ref ra), (.int vc)] ∧ Z.Warmed39 U.vm ∧ U.heap = h0) (fun _ _ _ _ _ => True) (fun _ U o U' => ∃ v L, o = .returned v ∧ (Q_own_mpass Z ra vc vl vf h0 n0) v U'.heap L ∧ FrameEnd U o U' L ({ frames := 0, cells := 0, slots := 0, locals := 0 } : Room).cells ({ frames := 0, cells := 0, slots := 0, locals := 0 } : Room).slots) := by
  refine MetFree.of_bodySF (plainFor_of_name own_pn1) hisR ?_
  intro p e s m args below meth c s₁ Bd hml0 hP hK
  obtain ⟨rfl, hZ, hh⟩ := hP
  have hx := Bd.exec
  have hby := Bd.bytes
  have hret := Bd.returns
  have hlk : meth.locks = false := Bd.notSynchronized
  have hml : c.maxLocals = 2 := hml0
  have hown : s.vm.findClass "org/surnia/io/LineCounter" = some m.cls := findClass_of_methodNamed Bd.named
  have hnm := (name_of_methodNamed Bd.named Bd.method).1
  have X0 : Stand p l e ({ frames := 0, cells := 0, slots := 0, locals := 0 } : Room) s m #[(.ref ra), (.int vc)] below meth c s₁ [] 0 0 := Stand.of_body Bd
  have e0 : s₁.heap = h0 := by rw [← hh, Bd.state]; rfl
  have N0 := Fr.nil n0
  have pre0 : ∀ t, Steps p.tables e below (s₁.setTop (mkF m 0 #[.val (.ref ra), .val (.int vc)] [])) t → Steps p.tables e below (s₁.setTop (entryFrame m #[(.ref ra), (.int vc)] 2)) t := fun t k => castTop (ef_own_mpass m ra vc) k
  have K0 : Keep h0 h0 [ra] := Keep.refl _ _
  show OGo p e below s (Q_own_mpass Z ra vc vl vf h0 n0) ({ frames := 0, cells := 0, slots := 0, locals := 0 } : Room).cells ({ frames := 0, cells := 0, slots := 0, locals := 0 } : Room).slots (s₁.setTop (entryFrame m #[(.ref ra), (.int vc)] 2))
  refine OGo.on pre0 ?_
  show OGo p e below s _ _ _ (s₁.setTop (mkF m 0 #[.val (.ref ra), .val (.int vc)] []))
  refine OGo.on (fun t k => XS.iloadN X0.here hx rfl (hb hby d5_0) rfl k) ?_
  show OGo p e below s _ _ _ (s₁.setTop (mkF m 1 #[.val (.ref ra), .val (.int vc)] [(.int vc)]))
  refine OGo.on (fun t k => XS.bipush X0.here hx rfl (hb hby d5_1) k) ?_
  show OGo p e below s _ _ _ (s₁.setTop (mkF m 3 #[.val (.ref ra), .val (.int vc)] [(.int (13 : Int32)), (.int vc)]))
  by_cases hc16 : vc = (13 : Int32)
  · refine OGo.on (fun t k => XS.icmpNo X0.here hx rfl (hb hby d5_3) rfl (teq hc16).2 k) ?_
    show OGo p e below s _ _ _ (s₁.setTop (mkF m 6 #[.val (.ref ra), .val (.int vc)] []))
    refine OGo.on (fun t k => XS.aloadN X0.here hx rfl (hb hby d5_6) rfl rfl k) ?_
    show OGo p e below s _ _ _ (s₁.setTop (mkF m 7 #[.val (.ref ra), .val (.int vc)] [(.ref ra)]))
    refine OGo.on (fun t k => XS.dup X0.here hx rfl (hb hby d5_7) rfl rfl k) ?_
    show OGo p e below s _ _ _ (s₁.setTop (mkF m 8 #[.val (.ref ra), .val (.int vc)] [(.ref ra), (.ref ra)]))
    obtain ⟨T17, X17, e17, st17⟩ := getF X0 hx hZ hown (host := "") (Or.inl (hw _ (List.mem_of_getElem? (i := 14) rfl))) Via.refl e0 F_line_ra (g := (mkF m 8 #[.val (.ref ra), .val (.int vc)] [(.ref ra), (.ref ra)])) rfl rfl (hb hby d5_8)
    refine OGo.on st17 ?_
    show OGo p e below s _ _ _ (T17.setTop (mkF m 11 #[.val (.ref ra), .val (.int vc)] [(.long vl), (.ref ra)]))
    refine OGo.on (fun t k => XS.lconst X17.here hx rfl (hb hby d5_11) k) ?_
    show OGo p e below s _ _ _ (T17.setTop (mkF m 12 #[.val (.ref ra), .val (.int vc)] [(.long (1 : Int64)), (.long vl), (.ref ra)]))
    refine OGo.on (fun t k => XS.ladd X17.here hx rfl (hb hby d5_12) rfl k) ?_
    show OGo p e below s _ _ _ (T17.setTop (mkF m 13 #[.val (.ref ra), .val (.int vc)] [(.long (vl + (1 : Int64))), (.ref ra)]))
    obtain ⟨T18, h18, X18, e18, W18, st18⟩ := putF X17 hx hZ hown (host := "") (Or.inl (hw _ (List.mem_of_getElem? (i := 14) rfl))) Via.refl e17 F_line_ra E_ra (Or.inl (hw _ (List.mem_of_getElem? (i := 15) rfl))) (hw _ (List.mem_of_getElem? (i := 6) rfl)) (ty := .long) (by decide) rfl rfl (g := (mkF m 13 #[.val (.ref ra), .val (.int vc)] [(.long (vl + (1 : Int64))), (.ref ra)])) rfl rfl (hb hby d5_13)
    have f19 : Exa Z h18 ra "org/surnia/io/LineCounter" := E_ra.wr W18
    have f20 : Fld Z h18 ra "org/surnia/io/LineCounter" "afterCarriageReturn" "Z" (.int vf) := F_afterCarriageReturn_ra.other W18 (Or.inr (slot_ne (Or.inl (hw _ (List.mem_of_getElem? (i := 27) rfl))) (Or.inl (hw _ (List.mem_of_getElem? (i := 15) rfl))) (by decide) (t := .boolean) (t' := .long) (by decide) (by decide)))
    have Z21 : n0 ≤ h18.size := Nat.le_trans Z0 (Nat.le_of_eq W18.size.symm)
    have N22 := Fr.snoc X18 N0 g_ra
    have K23 : Keep h0 h18 [ra] := K0.wr W18 (Or.inl (List.mem_of_getElem? (i := 0) rfl))
    have f24 : Fld Z h18 ra "org/surnia/io/LineCounter" "line" "J" (.long (vl + (1 : Int64))) := F_line_ra.same W18
    refine OGo.on st18 ?_
    show OGo p e below s _ _ _ (T18.setTop (mkF m 16 #[.val (.ref ra), .val (.int vc)] []))
    refine OGo.on (fun t k => XS.aloadN X18.here hx rfl (hb hby d5_16) rfl rfl k) ?_
    show OGo p e below s _ _ _ (T18.setTop (mkF m 17 #[.val (.ref ra), .val (.int vc)] [(.ref ra)]))
    refine OGo.on (fun t k => XS.iconst X18.here hx rfl (hb hby d5_17) k) ?_
    show OGo p e below s _ _ _ (T18.setTop (mkF m 18 #[.val (.ref ra), .val (.int vc)] [(.int (1 : Int32)), (.ref ra)]))
    obtain ⟨T25, h25, X25, e25, W25, st25⟩ := putFN X18 hx hZ hown (hw _ (List.mem_of_getElem? (i := 26) rfl)) Via.refl e18 f20 f19 (Or.inl (hw _ (List.mem_of_getElem? (i := 27) rfl))) (hw _ (List.mem_of_getElem? (i := 6) rfl)) (ty := .boolean) (v' := (.int (nar .boolean (1 : Int32)))) (by decide) rfl (fits_nar_bool _) (g := (mkF m 18 #[.val (.ref ra), .val (.int vc)] [(.int (1 : Int32)), (.ref ra)])) rfl rfl (hb hby d5_18)
    have f26 : Exa Z h25 ra "org/surnia/io/LineCounter" := f19.wr W25
    have f27 : Fld Z h25 ra "org/surnia/io/LineCounter" "line" "J" (.long (vl + (1 : Int64))) := f24.other W25 (Or.inr (slot_ne (Or.inl (hw _ (List.mem_of_getElem? (i := 15) rfl))) (Or.inl (hw _ (List.mem_of_getElem? (i := 27) rfl))) (by decide) (t := .long) (t' := .boolean) (by decide) (by decide)))
    have Z28 : n0 ≤ h25.size := Nat.le_trans Z21 (Nat.le_of_eq W25.size.symm)
    have N29 := Fr.snoc X25 N22 g_ra
    have K30 : Keep h0 h25 [ra] := K23.wr W25 (Or.inl (List.mem_of_getElem? (i := 0) rfl))
    have f31 : Fld Z h25 ra "org/surnia/io/LineCounter" "afterCarriageReturn" "Z" (.int (1 : Int32)) := f20.same W25
    refine OGo.on st25 ?_
    show OGo p e below s _ _ _ (T25.setTop (mkF m 21 #[.val (.ref ra), .val (.int vc)] []))
    refine OGo.on (fun t k => XS.goto X25.here hx rfl (pc0 := 21) (pc' := 52) rfl (hb hby d5_21) (by decide) (by decide) k) ?_
    show OGo p e below s _ _ _ (T25.setTop (mkF m 52 #[.val (.ref ra), .val (.int vc)] []))
    exact OGo.ret0 X25 hx hret hlk (hb hby d5_52) ⟨rfl, N29, by rw [e25]; exact K30, by rw [e25, show (own_pl vc vl vf) = (vl + (1 : Int64)) from by simp [own_pl, own_pf, hc16]]; exact f27, by rw [e25, show (own_pf vc) = (1 : Int32) from by simp [own_pl, own_pf, hc16]]; exact f31⟩ (by decide) (by decide)
  · refine OGo.on (fun t k => XS.icmpYes X0.here hx rfl (pc0 := 3) (pc' := 24) rfl (hb hby d5_3) rfl (feq hc16).2 (by decide) (by decide) k) ?_
    show OGo p e below s _ _ _ (s₁.setTop (mkF m 24 #[.val (.ref ra), .val (.int vc)] []))
    refine OGo.on (fun t k => XS.iloadN X0.here hx rfl (hb hby d5_24) rfl k) ?_
    show OGo p e below s _ _ _ (s₁.setTop (mkF m 25 #[.val (.ref ra), .val (.int vc)] [(.int vc)]))
    refine OGo.on (fun t k => XS.bipush X0.here hx rfl (hb hby d5_25) k) ?_
    show OGo p e below s _ _ _ (s₁.setTop (mkF m 27 #[.val (.ref ra), .val (.int vc)] [(.int (10 : Int32)), (.int vc)]))
    by_cases hc32 : vc = (10 : Int32)
    · refine OGo.on (fun t k => XS.icmpNo X0.here hx rfl (hb hby d5_27) rfl (teq hc32).2 k) ?_
      show OGo p e below s _ _ _ (s₁.setTop (mkF m 30 #[.val (.ref ra), .val (.int vc)] []))
      refine OGo.on (fun t k => XS.aloadN X0.here hx rfl (hb hby d5_30) rfl rfl k) ?_
      show OGo p e below s _ _ _ (s₁.setTop (mkF m 31 #[.val (.ref ra), .val (.int vc)] [(.ref ra)]))
      obtain ⟨T33, X33, e33, st33⟩ := getF X0 hx hZ hown (host := "") (Or.inl (hw _ (List.mem_of_getElem? (i := 26) rfl))) Via.refl e0 F_afterCarriageReturn_ra (g := (mkF m 31 #[.val (.ref ra), .val (.int vc)] [(.ref ra)])) rfl rfl (hb hby d5_31)
      refine OGo.on st33 ?_
      show OGo p e below s _ _ _ (T33.setTop (mkF m 34 #[.val (.ref ra), .val (.int vc)] [(.int vf)]))
      by_cases hc34 : vf = (0 : Int32)
      · refine OGo.on (fun t k => XS.ifNo X33.here hx rfl (hb hby d5_34) rfl ((if0 _ _).trans (teq hc34).2) k) ?_
        show OGo p e below s _ _ _ (T33.setTop (mkF m 37 #[.val (.ref ra), .val (.int vc)] []))
        refine OGo.on (fun t k => XS.aloadN X33.here hx rfl (hb hby d5_37) rfl rfl k) ?_
        show OGo p e below s _ _ _ (T33.setTop (mkF m 38 #[.val (.ref ra), .val (.int vc)] [(.ref ra)]))
        refine OGo.on (fun t k => XS.dup X33.here hx rfl (hb hby d5_38) rfl rfl k) ?_
        show OGo p e below s _ _ _ (T33.setTop (mkF m 39 #[.val (.ref ra), .val (.int vc)] [(.ref ra), (.ref ra)]))
        obtain ⟨T35, X35, e35, st35⟩ := getF X33 hx hZ hown (host := "") (Or.inl (hw _ (List.mem_of_getElem? (i := 14) rfl))) Via.refl e33 F_line_ra (g := (mkF m 39 #[.val (.ref ra), .val (.int vc)] [(.ref ra), (.ref ra)])) rfl rfl (hb hby d5_39)
        refine OGo.on st35 ?_
        show OGo p e below s _ _ _ (T35.setTop (mkF m 42 #[.val (.ref ra), .val (.int vc)] [(.long vl), (.ref ra)]))
        refine OGo.on (fun t k => XS.lconst X35.here hx rfl (hb hby d5_42) k) ?_
        show OGo p e below s _ _ _ (T35.setTop (mkF m 43 #[.val (.ref ra), .val (.int vc)] [(.long (1 : Int64)), (.long vl), (.ref ra)]))
        refine OGo.on (fun t k => XS.ladd X35.here hx rfl (hb hby d5_43) rfl k) ?_
        show OGo p e below s _ _ _ (T35.setTop (mkF m 44 #[.val (.ref ra), .val (.int vc)] [(.long (vl + (1 : Int64))), (.ref ra)]))
        obtain ⟨T36, h36, X36, e36, W36, st36⟩ := putF X35 hx hZ hown (host := "") (Or.inl (hw _ (List.mem_of_getElem? (i := 14) rfl))) Via.refl e35 F_line_ra E_ra (Or.inl (hw _ (List.mem_of_getElem? (i := 15) rfl))) (hw _ (List.mem_of_getElem? (i := 6) rfl)) (ty := .long) (by decide) rfl rfl (g := (mkF m 44 #[.val (.ref ra), .val (.int vc)] [(.long (vl + (1 : Int64))), (.ref ra)])) rfl rfl (hb hby d5_44)
        have f37 : Exa Z h36 ra "org/surnia/io/LineCounter" := E_ra.wr W36
        have f38 : Fld Z h36 ra "org/surnia/io/LineCounter" "afterCarriageReturn" "Z" (.int vf) := F_afterCarriageReturn_ra.other W36 (Or.inr (slot_ne (Or.inl (hw _ (List.mem_of_getElem? (i := 27) rfl))) (Or.inl (hw _ (List.mem_of_getElem? (i := 15) rfl))) (by decide) (t := .boolean) (t' := .long) (by decide) (by decide)))
        have Z39 : n0 ≤ h36.size := Nat.le_trans Z0 (Nat.le_of_eq W36.size.symm)
        have N40 := Fr.snoc X36 N0 g_ra
        have K41 : Keep h0 h36 [ra] := K0.wr W36 (Or.inl (List.mem_of_getElem? (i := 0) rfl))
        have f42 : Fld Z h36 ra "org/surnia/io/LineCounter" "line" "J" (.long (vl + (1 : Int64))) := F_line_ra.same W36
        refine OGo.on st36 ?_
        show OGo p e below s _ _ _ (T36.setTop (mkF m 47 #[.val (.ref ra), .val (.int vc)] []))
        refine OGo.on (fun t k => XS.aloadN X36.here hx rfl (hb hby d5_47) rfl rfl k) ?_
        show OGo p e below s _ _ _ (T36.setTop (mkF m 48 #[.val (.ref ra), .val (.int vc)] [(.ref ra)]))
        refine OGo.on (fun t k => XS.iconst X36.here hx rfl (hb hby d5_48) k) ?_
        show OGo p e below s _ _ _ (T36.setTop (mkF m 49 #[.val (.ref ra), .val (.int vc)] [(.int (0 : Int32)), (.ref ra)]))
        obtain ⟨T43, h43, X43, e43, W43, st43⟩ := putFN X36 hx hZ hown (hw _ (List.mem_of_getElem? (i := 26) rfl)) Via.refl e36 f38 f37 (Or.inl (hw _ (List.mem_of_getElem? (i := 27) rfl))) (hw _ (List.mem_of_getElem? (i := 6) rfl)) (ty := .boolean) (v' := (.int (nar .boolean (0 : Int32)))) (by decide) rfl (fits_nar_bool _) (g := (mkF m 49 #[.val (.ref ra), .val (.int vc)] [(.int (0 : Int32)), (.ref ra)])) rfl rfl (hb hby d5_49)
        have f44 : Exa Z h43 ra "org/surnia/io/LineCounter" := f37.wr W43
        have f45 : Fld Z h43 ra "org/surnia/io/LineCounter" "line" "J" (.long (vl + (1 : Int64))) := f42.other W43 (Or.inr (slot_ne (Or.inl (hw _ (List.mem_of_getElem? (i := 15) rfl))) (Or.inl (hw _ (List.mem_of_getElem? (i := 27) rfl))) (by decide) (t := .long) (t' := .boolean) (by decide) (by decide)))
        have Z46 : n0 ≤ h43.size := Nat.le_trans Z39 (Nat.le_of_eq W43.size.symm)
        have N47 := Fr.snoc X43 N40 g_ra
        have K48 : Keep h0 h43 [ra] := K41.wr W43 (Or.inl (List.mem_of_getElem? (i := 0) rfl))
        have f49 : Fld Z h43 ra "org/surnia/io/LineCounter" "afterCarriageReturn" "Z" (.int (0 : Int32)) := f38.same W43
        refine OGo.on st43 ?_
        show OGo p e below s _ _ _ (T43.setTop (mkF m 52 #[.val (.ref ra), .val (.int vc)] []))
        exact OGo.ret0 X43 hx hret hlk (hb hby d5_52) ⟨rfl, N47, by rw [e43]; exact K48, by rw [e43, show (own_pl vc vl vf) = (vl + (1 : Int64)) from by simp [own_pl, own_pf, hc16, hc32, hc34]]; exact f45, by rw [e43, show (own_pf vc) = (0 : Int32) from by simp [own_pl, own_pf, hc16, hc32, hc34]]; exact f49⟩ (by decide) (by decide)
      · refine OGo.on (fun t k => XS.ifYes X33.here hx rfl (pc0 := 34) (pc' := 47) rfl (hb hby d5_34) rfl ((if0 _ _).trans (feq hc34).2) (by decide) (by decide) k) ?_
        show OGo p e below s _ _ _ (T33.setTop (mkF m 47 #[.val (.ref ra), .val (.int vc)] []))
        refine OGo.on (fun t k => XS.aloadN X33.here hx rfl (hb hby d5_47) rfl rfl k) ?_
        show OGo p e below s _ _ _ (T33.setTop (mkF m 48 #[.val (.ref ra), .val (.int vc)] [(.ref ra)]))
        refine OGo.on (fun t k => XS.iconst X33.here hx rfl (hb hby d5_48) k) ?_
        show OGo p e below s _ _ _ (T33.setTop (mkF m 49 #[.val (.ref ra), .val (.int vc)] [(.int (0 : Int32)), (.ref ra)]))
        obtain ⟨T50, h50, X50, e50, W50, st50⟩ := putFN X33 hx hZ hown (hw _ (List.mem_of_getElem? (i := 26) rfl)) Via.refl e33 F_afterCarriageReturn_ra E_ra (Or.inl (hw _ (List.mem_of_getElem? (i := 27) rfl))) (hw _ (List.mem_of_getElem? (i := 6) rfl)) (ty := .boolean) (v' := (.int (nar .boolean (0 : Int32)))) (by decide) rfl (fits_nar_bool _) (g := (mkF m 49 #[.val (.ref ra), .val (.int vc)] [(.int (0 : Int32)), (.ref ra)])) rfl rfl (hb hby d5_49)
        have f51 : Exa Z h50 ra "org/surnia/io/LineCounter" := E_ra.wr W50
        have f52 : Fld Z h50 ra "org/surnia/io/LineCounter" "line" "J" (.long vl) := F_line_ra.other W50 (Or.inr (slot_ne (Or.inl (hw _ (List.mem_of_getElem? (i := 15) rfl))) (Or.inl (hw _ (List.mem_of_getElem? (i := 27) rfl))) (by decide) (t := .long) (t' := .boolean) (by decide) (by decide)))
        have Z53 : n0 ≤ h50.size := Nat.le_trans Z0 (Nat.le_of_eq W50.size.symm)
        have N54 := Fr.snoc X50 N0 g_ra
        have K55 : Keep h0 h50 [ra] := K0.wr W50 (Or.inl (List.mem_of_getElem? (i := 0) rfl))
        have f56 : Fld Z h50 ra "org/surnia/io/LineCounter" "afterCarriageReturn" "Z" (.int (0 : Int32)) := F_afterCarriageReturn_ra.same W50
        refine OGo.on st50 ?_
        show OGo p e below s _ _ _ (T50.setTop (mkF m 52 #[.val (.ref ra), .val (.int vc)] []))
        exact OGo.ret0 X50 hx hret hlk (hb hby d5_52) ⟨rfl, N54, by rw [e50]; exact K55, by rw [e50, show (own_pl vc vl vf) = vl from by simp [own_pl, own_pf, hc16, hc32, hc34]]; exact f52, by rw [e50, show (own_pf vc) = (0 : Int32) from by simp [own_pl, own_pf, hc16, hc32, hc34]]; exact f56⟩ (by decide) (by decide)
    · refine OGo.on (fun t k => XS.icmpYes X0.here hx rfl (pc0 := 27) (pc' := 47) rfl (hb hby d5_27) rfl (feq hc32).2 (by decide) (by decide) k) ?_
      show OGo p e below s _ _ _ (s₁.setTop (mkF m 47 #[.val (.ref ra), .val (.int vc)] []))
      refine OGo.on (fun t k => XS.aloadN X0.here hx rfl (hb hby d5_47) rfl rfl k) ?_
      show OGo p e below s _ _ _ (s₁.setTop (mkF m 48 #[.val (.ref ra), .val (.int vc)] [(.ref ra)]))
      refine OGo.on (fun t k => XS.iconst X0.here hx rfl (hb hby d5_48) k) ?_
      show OGo p e below s _ _ _ (s₁.setTop (mkF m 49 #[.val (.ref ra), .val (.int vc)] [(.int (0 : Int32)), (.ref ra)]))
      obtain ⟨T57, h57, X57, e57, W57, st57⟩ := putFN X0 hx hZ hown (hw _ (List.mem_of_getElem? (i := 26) rfl)) Via.refl e0 F_afterCarriageReturn_ra E_ra (Or.inl (hw _ (List.mem_of_getElem? (i := 27) rfl))) (hw _ (List.mem_of_getElem? (i := 6) rfl)) (ty := .boolean) (v' := (.int (nar .boolean (0 : Int32)))) (by decide) rfl (fits_nar_bool _) (g := (mkF m 49 #[.val (.ref ra), .val (.int vc)] [(.int (0 : Int32)), (.ref ra)])) rfl rfl (hb hby d5_49)
      have f58 : Exa Z h57 ra "org/surnia/io/LineCounter" := E_ra.wr W57
      have f59 : Fld Z h57 ra "org/surnia/io/LineCounter" "line" "J" (.long vl) := F_line_ra.other W57 (Or.inr (slot_ne (Or.inl (hw _ (List.mem_of_getElem? (i := 15) rfl))) (Or.inl (hw _ (List.mem_of_getElem? (i := 27) rfl))) (by decide) (t := .long) (t' := .boolean) (by decide) (by decide)))
      have Z60 : n0 ≤ h57.size := Nat.le_trans Z0 (Nat.le_of_eq W57.size.symm)
      have N61 := Fr.snoc X57 N0 g_ra
      have K62 : Keep h0 h57 [ra] := K0.wr W57 (Or.inl (List.mem_of_getElem? (i := 0) rfl))
      have f63 : Fld Z h57 ra "org/surnia/io/LineCounter" "afterCarriageReturn" "Z" (.int (0 : Int32)) := F_afterCarriageReturn_ra.same W57
      refine OGo.on st57 ?_
      show OGo p e below s _ _ _ (T57.setTop (mkF m 52 #[.val (.ref ra), .val (.int vc)] []))
      exact OGo.ret0 X57 hx hret hlk (hb hby d5_52) ⟨rfl, N61, by rw [e57]; exact K62, by rw [e57, show (own_pl vc vl vf) = vl from by simp [own_pl, own_pf, hc16, hc32]]; exact f59, by rw [e57, show (own_pf vc) = (0 : Int32) from by simp [own_pl, own_pf, hc16, hc32]]; exact f63⟩ (by decide) (by decide)
theorem own_pd1 : parseMethodDescriptor "(I)C" = some ⟨[.int], some .char⟩ := by decide +kernel
theorem own_pd2 : parseMethodDescriptor "()J" = some ⟨[], some .long⟩ := by decide +kernel
theorem own_pd3 : parseMethodDescriptor "(C)V" = some ⟨[.char], none⟩ := by decide +kernel
theorem own_pd4 : parseMethodDescriptor "(ZCC)J" = some ⟨[.boolean, .char, .char], some .long⟩ := by decide +kernel
theorem ef_own_law (m : MethodId) (x0 : Int32) (x1 : Int32) (x2 : Int32) (x3 : Int32) : entryFrame m #[(.int x0), (.int x1), (.int x2), (.int x3)] maxLocals = mkF m 0 #[.val (.int x0), .val (.int x1), .val (.int x2), .val (.int x3), .unset, .unset, .unset, .unset, .unset, .unset, .unset, .unset] [] := by first | (simp [entryFrame, mkF, argsToLocals, Value.category, maxLocals]; done) | rfl
set_option maxRecDepth 65536 in
set_option maxHeartbeats 40000000 in
theorem own_law (l : Launch) (Z : State) (a0 : Array Value) (hw : ∀ d ∈ tables_1, d.before a0 Z = true) (ws : List Jvm.Cond) (va vb vc vd : Int32) (h0 : Heap) (n0 : Nat) (Z0 : n0 ≤ h0.size)  :
    MetFree l x (head1 (Jvm.Cond.code x code maxLocals ret :: ws) room_1) (fun a U => a = #[(.int va), (.int vb), (.int vc), (.int vd)] ∧ Z.Warmed39 U.vm ∧ U.heap = h0) (fun _ _ _ _ _ => True) (fun _ U o U' => ∃ v L, o = .returned v ∧ (fun v h L => v = some (.int 1) ∧ Fr n0 L) v U'.heap L ∧ FrameEnd U o U' L 16 128) := by
  refine MetFree.of_bodySF (plainFor_of_name own_pn0) hisR ?_
  intro p e s m args below meth c s₁ Bd hml0 hP hK
  obtain ⟨rfl, hZ, hh⟩ := hP
  have hx := Bd.exec
  have hby := Bd.bytes
  have hret := Bd.returns
  have hlk : meth.locks = false := Bd.notSynchronized
  have hml : c.maxLocals = 12 := hml0
  have hown : s.vm.findClass "org/surnia/io/LineCounterPassPinLaw" = some m.cls := findClass_of_methodNamed Bd.named
  have hnm := (name_of_methodNamed Bd.named Bd.method).1
  have X0 : Stand p l e room_1 s m #[(.int va), (.int vb), (.int vc), (.int vd)] below meth c s₁ [] 0 0 := Stand.of_body Bd
  have e0 : s₁.heap = h0 := by rw [← hh, Bd.state]; rfl
  have N0 := Fr.nil n0
  have pre0 : ∀ t, Steps p.tables e below (s₁.setTop (mkF m 0 #[.val (.int va), .val (.int vb), .val (.int vc), .val (.int vd), .unset, .unset, .unset, .unset, .unset, .unset, .unset, .unset] [])) t → Steps p.tables e below (s₁.setTop (entryFrame m #[(.int va), (.int vb), (.int vc), (.int vd)] maxLocals)) t := fun t k => castTop (ef_own_law m va vb vc vd) k
  show OGo p e below s (fun v h L => v = some (.int 1) ∧ Fr n0 L) 16 128 (s₁.setTop (entryFrame m #[(.int va), (.int vb), (.int vc), (.int vd)] maxLocals))
  refine OGo.on pre0 ?_
  show OGo p e below s _ _ _ (s₁.setTop (mkF m 0 #[.val (.int va), .val (.int vb), .val (.int vc), .val (.int vd), .unset, .unset, .unset, .unset, .unset, .unset, .unset, .unset] []))
  refine OGo.on (fun t k => XS.iloadN X0.here hx rfl (hb hby at_0) rfl k) ?_
  show OGo p e below s _ _ _ (s₁.setTop (mkF m 1 #[.val (.int va), .val (.int vb), .val (.int vc), .val (.int vd), .unset, .unset, .unset, .unset, .unset, .unset, .unset, .unset] [(.int va)]))
  obtain ⟨_, _, ⟨T64, L64, k64, n64⟩, -, X64, ⟨Lc64, hQ64, l64, y64, z64⟩, st64⟩ := Jvm.LawKit.callS X0 hx (y := (⟨"org/surnia/io/LineCounterPassPinLaw", "pick", "(I)C"⟩ : MethodName)) hown (mvT hZ (hw _ (List.mem_of_getElem? (i := 0) rfl))) (mvT hZ (hw _ (List.mem_of_getElem? (i := 1) rfl))) (mvT hZ (hw _ (List.mem_of_getElem? (i := 2) rfl))) (mvT hZ (hw _ (List.mem_of_getElem? (i := 3) rfl))) (by decide) (backOf (W := 0) (own_mpick l Z a0 hw [] va h0 n0 Z0) hZ (hw _ (List.mem_of_getElem? (i := 3) rfl)) (hw _ (List.mem_of_getElem? (i := 2) rfl)) (by decide) (by decide)) (g := (mkF m 1 #[.val (.int va), .val (.int vb), .val (.int vc), .val (.int vd), .unset, .unset, .unset, .unset, .unset, .unset, .unset, .unset] [(.int va)])) rfl (by rw [hml]; rfl) (argsL := [(.int va)]) (rest := []) (lenOf own_pd1 rfl) rfl (by show 2 * 0 + _ ≤ _; exact Nat.le_of_eq rfl) (hb hby at_1) (fun _ _ => ⟨rfl, e0, (by decide : 0 + 0 ≤ _), (by decide : 0 + 0 ≤ _)⟩)
  dsimp only [Pt.U, Pt.locs, Pt.cells, Pt.slots] at X64 l64 y64 z64 st64 hQ64
  subst l64 y64 z64
  obtain ⟨rfl, N64q, e64⟩ := hQ64
  have N64 := Fr.app N0 N64q
  refine OGo.on st64 ?_
  show OGo p e below s _ _ _ (T64.setTop (mkF m 4 #[.val (.int va), .val (.int vb), .val (.int vc), .val (.int vd), .unset, .unset, .unset, .unset, .unset, .unset, .unset, .unset] [(.int (own_pick va))]))
  refine OGo.on (fun t k => XS.istore X64.here hx rfl (hb hby at_4) rfl (l' := #[.val (.int va), .val (.int vb), .val (.int vc), .val (.int vd), .val (.int (own_pick va)), .unset, .unset, .unset, .unset, .unset, .unset, .unset]) rfl k) ?_
  show OGo p e below s _ _ _ (T64.setTop (mkF m 6 #[.val (.int va), .val (.int vb), .val (.int vc), .val (.int vd), .val (.int (own_pick va)), .unset, .unset, .unset, .unset, .unset, .unset, .unset] []))
  generalize hv_c0 : (own_pick va) = c0
  show OGo p e below s _ _ _ (T64.setTop (mkF m 6 #[.val (.int va), .val (.int vb), .val (.int vc), .val (.int vd), .val (.int c0), .unset, .unset, .unset, .unset, .unset, .unset, .unset] []))
  refine OGo.on (fun t k => XS.iloadN X64.here hx rfl (hb hby at_6) rfl k) ?_
  show OGo p e below s _ _ _ (T64.setTop (mkF m 7 #[.val (.int va), .val (.int vb), .val (.int vc), .val (.int vd), .val (.int c0), .unset, .unset, .unset, .unset, .unset, .unset, .unset] [(.int vb)]))
  obtain ⟨_, _, ⟨T65, L65, k65, n65⟩, -, X65, ⟨Lc65, hQ65, l65, y65, z65⟩, st65⟩ := Jvm.LawKit.callS X64 hx (y := (⟨"org/surnia/io/LineCounterPassPinLaw", "pick", "(I)C"⟩ : MethodName)) hown (mvT hZ (hw _ (List.mem_of_getElem? (i := 0) rfl))) (mvT hZ (hw _ (List.mem_of_getElem? (i := 1) rfl))) (mvT hZ (hw _ (List.mem_of_getElem? (i := 2) rfl))) (mvT hZ (hw _ (List.mem_of_getElem? (i := 3) rfl))) (by decide) (backOf (W := 0) (own_mpick l Z a0 hw [] vb h0 n0 Z0) hZ (hw _ (List.mem_of_getElem? (i := 3) rfl)) (hw _ (List.mem_of_getElem? (i := 2) rfl)) (by decide) (by decide)) (g := (mkF m 7 #[.val (.int va), .val (.int vb), .val (.int vc), .val (.int vd), .val (.int c0), .unset, .unset, .unset, .unset, .unset, .unset, .unset] [(.int vb)])) rfl (by rw [hml]; rfl) (argsL := [(.int vb)]) (rest := []) (lenOf own_pd1 rfl) rfl (by show 2 * 0 + _ ≤ _; exact Nat.le_of_eq rfl) (hb hby at_7) (fun _ _ => ⟨rfl, e64, (by decide : 0 + 0 ≤ _), (by decide : 0 + 0 ≤ _)⟩)
  dsimp only [Pt.U, Pt.locs, Pt.cells, Pt.slots] at X65 l65 y65 z65 st65 hQ65
  subst l65 y65 z65
  obtain ⟨rfl, N65q, e65⟩ := hQ65
  have N65 := Fr.app N64 N65q
  refine OGo.on st65 ?_
  show OGo p e below s _ _ _ (T65.setTop (mkF m 10 #[.val (.int va), .val (.int vb), .val (.int vc), .val (.int vd), .val (.int c0), .unset, .unset, .unset, .unset, .unset, .unset, .unset] [(.int (own_pick vb))]))
  refine OGo.on (fun t k => XS.istore X65.here hx rfl (hb hby at_10) rfl (l' := #[.val (.int va), .val (.int vb), .val (.int vc), .val (.int vd), .val (.int c0), .val (.int (own_pick vb)), .unset, .unset, .unset, .unset, .unset, .unset]) rfl k) ?_
  show OGo p e below s _ _ _ (T65.setTop (mkF m 12 #[.val (.int va), .val (.int vb), .val (.int vc), .val (.int vd), .val (.int c0), .val (.int (own_pick vb)), .unset, .unset, .unset, .unset, .unset, .unset] []))
  generalize hv_c1 : (own_pick vb) = c1
  show OGo p e below s _ _ _ (T65.setTop (mkF m 12 #[.val (.int va), .val (.int vb), .val (.int vc), .val (.int vd), .val (.int c0), .val (.int c1), .unset, .unset, .unset, .unset, .unset, .unset] []))
  refine OGo.on (fun t k => XS.iloadN X65.here hx rfl (hb hby at_12) rfl k) ?_
  show OGo p e below s _ _ _ (T65.setTop (mkF m 13 #[.val (.int va), .val (.int vb), .val (.int vc), .val (.int vd), .val (.int c0), .val (.int c1), .unset, .unset, .unset, .unset, .unset, .unset] [(.int vc)]))
  obtain ⟨_, _, ⟨T66, L66, k66, n66⟩, -, X66, ⟨Lc66, hQ66, l66, y66, z66⟩, st66⟩ := Jvm.LawKit.callS X65 hx (y := (⟨"org/surnia/io/LineCounterPassPinLaw", "pick", "(I)C"⟩ : MethodName)) hown (mvT hZ (hw _ (List.mem_of_getElem? (i := 0) rfl))) (mvT hZ (hw _ (List.mem_of_getElem? (i := 1) rfl))) (mvT hZ (hw _ (List.mem_of_getElem? (i := 2) rfl))) (mvT hZ (hw _ (List.mem_of_getElem? (i := 3) rfl))) (by decide) (backOf (W := 0) (own_mpick l Z a0 hw [] vc h0 n0 Z0) hZ (hw _ (List.mem_of_getElem? (i := 3) rfl)) (hw _ (List.mem_of_getElem? (i := 2) rfl)) (by decide) (by decide)) (g := (mkF m 13 #[.val (.int va), .val (.int vb), .val (.int vc), .val (.int vd), .val (.int c0), .val (.int c1), .unset, .unset, .unset, .unset, .unset, .unset] [(.int vc)])) rfl (by rw [hml]; rfl) (argsL := [(.int vc)]) (rest := []) (lenOf own_pd1 rfl) rfl (by show 2 * 0 + _ ≤ _; exact Nat.le_of_eq rfl) (hb hby at_13) (fun _ _ => ⟨rfl, e65, (by decide : 0 + 0 ≤ _), (by decide : 0 + 0 ≤ _)⟩)
  dsimp only [Pt.U, Pt.locs, Pt.cells, Pt.slots] at X66 l66 y66 z66 st66 hQ66
  subst l66 y66 z66
  obtain ⟨rfl, N66q, e66⟩ := hQ66
  have N66 := Fr.app N65 N66q
  refine OGo.on st66 ?_
  show OGo p e below s _ _ _ (T66.setTop (mkF m 16 #[.val (.int va), .val (.int vb), .val (.int vc), .val (.int vd), .val (.int c0), .val (.int c1), .unset, .unset, .unset, .unset, .unset, .unset] [(.int (own_pick vc))]))
  refine OGo.on (fun t k => XS.istore X66.here hx rfl (hb hby at_16) rfl (l' := #[.val (.int va), .val (.int vb), .val (.int vc), .val (.int vd), .val (.int c0), .val (.int c1), .val (.int (own_pick vc)), .unset, .unset, .unset, .unset, .unset]) rfl k) ?_
  show OGo p e below s _ _ _ (T66.setTop (mkF m 18 #[.val (.int va), .val (.int vb), .val (.int vc), .val (.int vd), .val (.int c0), .val (.int c1), .val (.int (own_pick vc)), .unset, .unset, .unset, .unset, .unset] []))
  generalize hv_c2 : (own_pick vc) = c2
  show OGo p e below s _ _ _ (T66.setTop (mkF m 18 #[.val (.int va), .val (.int vb), .val (.int vc), .val (.int vd), .val (.int c0), .val (.int c1), .val (.int c2), .unset, .unset, .unset, .unset, .unset] []))
  refine OGo.on (fun t k => XS.iloadN X66.here hx rfl (hb hby at_18) rfl k) ?_
  show OGo p e below s _ _ _ (T66.setTop (mkF m 19 #[.val (.int va), .val (.int vb), .val (.int vc), .val (.int vd), .val (.int c0), .val (.int c1), .val (.int c2), .unset, .unset, .unset, .unset, .unset] [(.int vd)]))
  obtain ⟨_, _, ⟨T67, L67, k67, n67⟩, -, X67, ⟨Lc67, hQ67, l67, y67, z67⟩, st67⟩ := Jvm.LawKit.callS X66 hx (y := (⟨"org/surnia/io/LineCounterPassPinLaw", "pick", "(I)C"⟩ : MethodName)) hown (mvT hZ (hw _ (List.mem_of_getElem? (i := 0) rfl))) (mvT hZ (hw _ (List.mem_of_getElem? (i := 1) rfl))) (mvT hZ (hw _ (List.mem_of_getElem? (i := 2) rfl))) (mvT hZ (hw _ (List.mem_of_getElem? (i := 3) rfl))) (by decide) (backOf (W := 0) (own_mpick l Z a0 hw [] vd h0 n0 Z0) hZ (hw _ (List.mem_of_getElem? (i := 3) rfl)) (hw _ (List.mem_of_getElem? (i := 2) rfl)) (by decide) (by decide)) (g := (mkF m 19 #[.val (.int va), .val (.int vb), .val (.int vc), .val (.int vd), .val (.int c0), .val (.int c1), .val (.int c2), .unset, .unset, .unset, .unset, .unset] [(.int vd)])) rfl (by rw [hml]; rfl) (argsL := [(.int vd)]) (rest := []) (lenOf own_pd1 rfl) rfl (by show 2 * 0 + _ ≤ _; exact Nat.le_of_eq rfl) (hb hby at_19) (fun _ _ => ⟨rfl, e66, (by decide : 0 + 0 ≤ _), (by decide : 0 + 0 ≤ _)⟩)
  dsimp only [Pt.U, Pt.locs, Pt.cells, Pt.slots] at X67 l67 y67 z67 st67 hQ67
  subst l67 y67 z67
  obtain ⟨rfl, N67q, e67⟩ := hQ67
  have N67 := Fr.app N66 N67q
  refine OGo.on st67 ?_
  show OGo p e below s _ _ _ (T67.setTop (mkF m 22 #[.val (.int va), .val (.int vb), .val (.int vc), .val (.int vd), .val (.int c0), .val (.int c1), .val (.int c2), .unset, .unset, .unset, .unset, .unset] [(.int (own_pick vd))]))
  refine OGo.on (fun t k => XS.istore X67.here hx rfl (hb hby at_22) rfl (l' := #[.val (.int va), .val (.int vb), .val (.int vc), .val (.int vd), .val (.int c0), .val (.int c1), .val (.int c2), .val (.int (own_pick vd)), .unset, .unset, .unset, .unset]) rfl k) ?_
  show OGo p e below s _ _ _ (T67.setTop (mkF m 24 #[.val (.int va), .val (.int vb), .val (.int vc), .val (.int vd), .val (.int c0), .val (.int c1), .val (.int c2), .val (.int (own_pick vd)), .unset, .unset, .unset, .unset] []))
  generalize hv_c3 : (own_pick vd) = c3
  show OGo p e below s _ _ _ (T67.setTop (mkF m 24 #[.val (.int va), .val (.int vb), .val (.int vc), .val (.int vd), .val (.int c0), .val (.int c1), .val (.int c2), .val (.int c3), .unset, .unset, .unset, .unset] []))
  obtain ⟨T68, h68, X68, e68, E68, A68, D68, -, st68⟩ := newO X67 hx hZ hown (hw _ (List.mem_of_getElem? (i := 5) rfl)) (hw _ (List.mem_of_getElem? (i := 6) rfl)) (hw _ (List.mem_of_getElem? (i := 7) rfl)) e67 (g := (mkF m 24 #[.val (.int va), .val (.int vb), .val (.int vc), .val (.int vd), .val (.int c0), .val (.int c1), .val (.int c2), .val (.int c3), .unset, .unset, .unset, .unset] [])) rfl (hb hby at_24) (by decide) (by decide)
  obtain ⟨b68, g68⟩ : ∃ z, z = h0.size := ⟨_, rfl⟩
  rw [← g68] at A68 D68 st68
  have ge69 : n0 ≤ b68 := Nat.le_trans Z0 (Nat.le_of_eq g68.symm)
  have Z70 : n0 ≤ h68.size := Nat.le_trans Z0 E68.1
  have f71 : Fld Z h68 b68 "org/surnia/io/LineCounter" "line" "J" (.long (0 : Int64)) := D68 (Or.inl (hw _ (List.mem_of_getElem? (i := 15) rfl))) (ty := .long) (by decide)
  have f72 : Fld Z h68 b68 "org/surnia/io/LineCounter" "afterCarriageReturn" "Z" (.int (0 : Int32)) := D68 (Or.inl (hw _ (List.mem_of_getElem? (i := 27) rfl))) (ty := .boolean) (by decide)
  refine OGo.on st68 ?_
  show OGo p e below s _ _ _ (T68.setTop (mkF m 27 #[.val (.int va), .val (.int vb), .val (.int vc), .val (.int vd), .val (.int c0), .val (.int c1), .val (.int c2), .val (.int c3), .unset, .unset, .unset, .unset] [(.ref b68)]))
  refine OGo.on (fun t k => XS.dup X68.here hx rfl (hb hby at_27) rfl rfl k) ?_
  show OGo p e below s _ _ _ (T68.setTop (mkF m 28 #[.val (.int va), .val (.int vb), .val (.int vc), .val (.int vd), .val (.int c0), .val (.int c1), .val (.int c2), .val (.int c3), .unset, .unset, .unset, .unset] [(.ref b68), (.ref b68)]))
  obtain ⟨_, _, ⟨T73, L73, k73, n73⟩, -, X73, ⟨Lc73, hQ73, l73, y73, z73⟩, st73⟩ := X68.specialBack hx (y := (⟨"org/surnia/io/LineCounter", "<init>", "()V"⟩ : MethodName)) rfl hown (mvT hZ (hw _ (List.mem_of_getElem? (i := 8) rfl))) (mvT hZ (hw _ (List.mem_of_getElem? (i := 9) rfl))) (mvT hZ (hw _ (List.mem_of_getElem? (i := 10) rfl))) (by decide) (backOf (W := 1) (own_minit l Z a0 hw [] b68 h68 n0 Z70 ge69 A68 f71 f72) hZ (hw _ (List.mem_of_getElem? (i := 10) rfl)) (hw _ (List.mem_of_getElem? (i := 7) rfl)) (by decide) (by decide)) (g := (mkF m 28 #[.val (.int va), .val (.int vb), .val (.int vc), .val (.int vd), .val (.int c0), .val (.int c1), .val (.int c2), .val (.int c3), .unset, .unset, .unset, .unset] [(.ref b68), (.ref b68)])) rfl (by rw [hml]; rfl) (Steps.refl _) (a := b68) (argsL := []) (rest := [(.ref b68)]) (lenOf own_pd0 rfl) rfl (by show 2 * 0 + _ ≤ _; exact Nat.le_of_eq rfl) (hb hby at_28) (fun _ _ => ⟨rfl, e68, (by decide : 1 + 0 ≤ _), (by decide : 2 + 0 ≤ _)⟩)
  dsimp only [Pt.U, Pt.locs, Pt.cells, Pt.slots] at X73 l73 y73 z73 st73 hQ73
  subst l73 y73 z73
  obtain ⟨rfl, N73q, K73, Fw73_0', Fw73_1'⟩ := hQ73
  have N73 := Fr.app N67 N73q
  have Fw73_0 : Fld Z T73.heap b68 "org/surnia/io/LineCounter" "line" "J" (.long (1 : Int64)) := Fw73_0'
  have Fw73_1 : Fld Z T73.heap b68 "org/surnia/io/LineCounter" "afterCarriageReturn" "Z" (.int (0 : Int32)) := Fw73_1'
  have f74 : Exa Z T73.heap b68 "org/surnia/io/LineCounter" := A68.keep K73
  have Z75 : n0 ≤ T73.heap.size := Nat.le_trans Z70 K73.1
  refine OGo.on (fun t k => st73.trans k) ?_
  show OGo p e below s _ _ _ (T73.setTop (mkF m 31 #[.val (.int va), .val (.int vb), .val (.int vc), .val (.int vd), .val (.int c0), .val (.int c1), .val (.int c2), .val (.int c3), .unset, .unset, .unset, .unset] [(.ref b68)]))
  refine OGo.on (fun t k => XS.astore X73.here hx rfl (hb hby at_31) rfl rfl (l' := #[.val (.int va), .val (.int vb), .val (.int vc), .val (.int vd), .val (.int c0), .val (.int c1), .val (.int c2), .val (.int c3), .val (.ref b68), .unset, .unset, .unset]) rfl k) ?_
  show OGo p e below s _ _ _ (T73.setTop (mkF m 33 #[.val (.int va), .val (.int vb), .val (.int vc), .val (.int vd), .val (.int c0), .val (.int c1), .val (.int c2), .val (.int c3), .val (.ref b68), .unset, .unset, .unset] []))
  refine OGo.on (fun t k => XS.aload X73.here hx rfl (hb hby at_33) rfl rfl k) ?_
  show OGo p e below s _ _ _ (T73.setTop (mkF m 35 #[.val (.int va), .val (.int vb), .val (.int vc), .val (.int vd), .val (.int c0), .val (.int c1), .val (.int c2), .val (.int c3), .val (.ref b68), .unset, .unset, .unset] [(.ref b68)]))
  obtain ⟨cq76, kq76, q76a, q76b, q76c⟩ := isOf hZ rfl f74
  obtain ⟨_, _, ⟨T76, L76, k76, n76⟩, -, X76, ⟨Lc76, hQ76, l76, y76, z76⟩, st76⟩ := X73.virtualBack hx (y := (⟨"org/surnia/io/LineCounter", "line", "()J"⟩ : MethodName)) (z := (⟨"org/surnia/io/LineCounter", "line", "()J"⟩ : MethodName)) hown (mvT hZ (hw _ (List.mem_of_getElem? (i := 16) rfl))) (mvT hZ (hw _ (List.mem_of_getElem? (i := 17) rfl))) (notFace_of_selects (args := #[]) (mvT hZ (hw _ (List.mem_of_getElem? (i := 19) rfl)))) (mvT hZ (hw _ (List.mem_of_getElem? (i := 19) rfl))) (mvT hZ (hw _ (List.mem_of_getElem? (i := 18) rfl))) (by decide) (backOf (W := 0) (own_mline l Z a0 hw [] b68 (1 : Int64) T73.heap n0 Z75 Fw73_0) hZ (hw _ (List.mem_of_getElem? (i := 20) rfl)) (hw _ (List.mem_of_getElem? (i := 7) rfl)) (by decide) (by decide)) q76a q76c (g := (mkF m 35 #[.val (.int va), .val (.int vb), .val (.int vc), .val (.int vd), .val (.int c0), .val (.int c1), .val (.int c2), .val (.int c3), .val (.ref b68), .unset, .unset, .unset] [(.ref b68)])) rfl (by rw [hml]; rfl) (Steps.refl _) (argsL := []) (rest := []) (lenOf own_pd2 rfl) rfl (by show 2 * 0 + _ ≤ _; exact Nat.le_of_eq rfl) (hb hby at_35) (fun _ _ => ⟨rfl, rfl, (by decide : 1 + 0 ≤ _), (by decide : 2 + 0 ≤ _)⟩)
  dsimp only [Pt.U, Pt.locs, Pt.cells, Pt.slots] at X76 l76 y76 z76 st76 hQ76
  subst l76 y76 z76
  obtain ⟨rfl, N76q, e76⟩ := hQ76
  have N76 := Fr.app N73 N76q
  refine OGo.on (fun t k => st76.trans k) ?_
  show OGo p e below s _ _ _ (T76.setTop (mkF m 38 #[.val (.int va), .val (.int vb), .val (.int vc), .val (.int vd), .val (.int c0), .val (.int c1), .val (.int c2), .val (.int c3), .val (.ref b68), .unset, .unset, .unset] [(.long (1 : Int64))]))
  refine OGo.on (fun t k => XS.lconst X76.here hx rfl (hb hby at_38) k) ?_
  show OGo p e below s _ _ _ (T76.setTop (mkF m 39 #[.val (.int va), .val (.int vb), .val (.int vc), .val (.int vd), .val (.int c0), .val (.int c1), .val (.int c2), .val (.int c3), .val (.ref b68), .unset, .unset, .unset] [(.long (1 : Int64)), (.long (1 : Int64))]))
  refine OGo.on (fun t k => XS.lcmp X76.here hx rfl (hb hby at_39) rfl k) ?_
  show OGo p e below s _ _ _ (T76.setTop (mkF m 40 #[.val (.int va), .val (.int vb), .val (.int vc), .val (.int vd), .val (.int c0), .val (.int c1), .val (.int c2), .val (.int c3), .val (.ref b68), .unset, .unset, .unset] [(.int (lcmpW (1 : Int64) (1 : Int64)))]))
  refine OGo.on (fun t k => XS.ifNo X76.here hx rfl (hb hby at_40) rfl (lc_teq rfl).2 k) ?_
  show OGo p e below s _ _ _ (T76.setTop (mkF m 43 #[.val (.int va), .val (.int vb), .val (.int vc), .val (.int vd), .val (.int c0), .val (.int c1), .val (.int c2), .val (.int c3), .val (.ref b68), .unset, .unset, .unset] []))
  refine OGo.on (fun t k => XS.iconst X76.here hx rfl (hb hby at_43) k) ?_
  show OGo p e below s _ _ _ (T76.setTop (mkF m 44 #[.val (.int va), .val (.int vb), .val (.int vc), .val (.int vd), .val (.int c0), .val (.int c1), .val (.int c2), .val (.int c3), .val (.ref b68), .unset, .unset, .unset] [(.int (1 : Int32))]))
  refine OGo.on (fun t k => XS.goto X76.here hx rfl (pc0 := 44) (pc' := 48) rfl (hb hby at_44) (by decide) (by decide) k) ?_
  show OGo p e below s _ _ _ (T76.setTop (mkF m 48 #[.val (.int va), .val (.int vb), .val (.int vc), .val (.int vd), .val (.int c0), .val (.int c1), .val (.int c2), .val (.int c3), .val (.ref b68), .unset, .unset, .unset] [(.int (1 : Int32))]))
  refine OGo.on (fun t k => XS.istore X76.here hx rfl (hb hby at_48) rfl (l' := #[.val (.int va), .val (.int vb), .val (.int vc), .val (.int vd), .val (.int c0), .val (.int c1), .val (.int c2), .val (.int c3), .val (.ref b68), .val (.int (1 : Int32)), .unset, .unset]) rfl k) ?_
  show OGo p e below s _ _ _ (T76.setTop (mkF m 50 #[.val (.int va), .val (.int vb), .val (.int vc), .val (.int vd), .val (.int c0), .val (.int c1), .val (.int c2), .val (.int c3), .val (.ref b68), .val (.int (1 : Int32)), .unset, .unset] []))
  refine OGo.on (fun t k => XS.lconst X76.here hx rfl (hb hby at_50) k) ?_
  show OGo p e below s _ _ _ (T76.setTop (mkF m 51 #[.val (.int va), .val (.int vb), .val (.int vc), .val (.int vd), .val (.int c0), .val (.int c1), .val (.int c2), .val (.int c3), .val (.ref b68), .val (.int (1 : Int32)), .unset, .unset] [(.long (1 : Int64))]))
  refine OGo.on (fun t k => XS.lstore X76.here hx rfl (hb hby at_51) rfl (l' := #[.val (.int va), .val (.int vb), .val (.int vc), .val (.int vd), .val (.int c0), .val (.int c1), .val (.int c2), .val (.int c3), .val (.ref b68), .val (.int (1 : Int32)), .val (.long (1 : Int64)), .second]) rfl k) ?_
  show OGo p e below s _ _ _ (T76.setTop (mkF m 53 #[.val (.int va), .val (.int vb), .val (.int vc), .val (.int vd), .val (.int c0), .val (.int c1), .val (.int c2), .val (.int c3), .val (.ref b68), .val (.int (1 : Int32)), .val (.long (1 : Int64)), .second] []))
  refine OGo.on (fun t k => XS.aload X76.here hx rfl (hb hby at_53) rfl rfl k) ?_
  show OGo p e below s _ _ _ (T76.setTop (mkF m 55 #[.val (.int va), .val (.int vb), .val (.int vc), .val (.int vd), .val (.int c0), .val (.int c1), .val (.int c2), .val (.int c3), .val (.ref b68), .val (.int (1 : Int32)), .val (.long (1 : Int64)), .second] [(.ref b68)]))
  refine OGo.on (fun t k => XS.iload X76.here hx rfl (hb hby at_55) rfl k) ?_
  show OGo p e below s _ _ _ (T76.setTop (mkF m 57 #[.val (.int va), .val (.int vb), .val (.int vc), .val (.int vd), .val (.int c0), .val (.int c1), .val (.int c2), .val (.int c3), .val (.ref b68), .val (.int (1 : Int32)), .val (.long (1 : Int64)), .second] [(.int c0), (.ref b68)]))
  obtain ⟨cq77, kq77, q77a, q77b, q77c⟩ := isOf hZ e76 f74
  obtain ⟨_, _, ⟨T77, L77, k77, n77⟩, -, X77, ⟨Lc77, hQ77, l77, y77, z77⟩, st77⟩ := X76.virtualBack hx (y := (⟨"org/surnia/io/LineCounter", "pass", "(C)V"⟩ : MethodName)) (z := (⟨"org/surnia/io/LineCounter", "pass", "(C)V"⟩ : MethodName)) hown (mvT hZ (hw _ (List.mem_of_getElem? (i := 21) rfl))) (mvT hZ (hw _ (List.mem_of_getElem? (i := 22) rfl))) (notFace_of_selects (args := #[]) (mvT hZ (hw _ (List.mem_of_getElem? (i := 24) rfl)))) (mvT hZ (hw _ (List.mem_of_getElem? (i := 24) rfl))) (mvT hZ (hw _ (List.mem_of_getElem? (i := 23) rfl))) (by decide) (backOf (W := 0) (own_mpass l Z a0 hw [] b68 c0 (1 : Int64) (0 : Int32) T73.heap n0 Z75 ge69 f74 Fw73_0 Fw73_1) hZ (hw _ (List.mem_of_getElem? (i := 25) rfl)) (hw _ (List.mem_of_getElem? (i := 7) rfl)) (by decide) (by decide)) q77a q77c (g := (mkF m 57 #[.val (.int va), .val (.int vb), .val (.int vc), .val (.int vd), .val (.int c0), .val (.int c1), .val (.int c2), .val (.int c3), .val (.ref b68), .val (.int (1 : Int32)), .val (.long (1 : Int64)), .second] [(.int c0), (.ref b68)])) rfl (by rw [hml]; rfl) (Steps.refl _) (argsL := [(.int c0)]) (rest := []) (lenOf own_pd3 rfl) rfl (by show 2 * 0 + _ ≤ _; exact Nat.le_of_eq rfl) (hb hby at_57) (fun _ _ => ⟨rfl, e76, (by decide : 1 + 0 ≤ _), (by decide : 2 + 0 ≤ _)⟩)
  dsimp only [Pt.U, Pt.locs, Pt.cells, Pt.slots] at X77 l77 y77 z77 st77 hQ77
  subst l77 y77 z77
  obtain ⟨rfl, N77q, K77, Fw77_0', Fw77_1'⟩ := hQ77
  have N77 := Fr.app N76 N77q
  have Fw77_0 : Fld Z T77.heap b68 "org/surnia/io/LineCounter" "line" "J" (.long (own_pl c0 (1 : Int64) (0 : Int32))) := Fw77_0'
  have Fw77_1 : Fld Z T77.heap b68 "org/surnia/io/LineCounter" "afterCarriageReturn" "Z" (.int (own_pf c0)) := Fw77_1'
  have f78 : Exa Z T77.heap b68 "org/surnia/io/LineCounter" := f74.keep K77
  have Z79 : n0 ≤ T77.heap.size := Nat.le_trans Z75 K77.1
  refine OGo.on (fun t k => st77.trans k) ?_
  show OGo p e below s _ _ _ (T77.setTop (mkF m 60 #[.val (.int va), .val (.int vb), .val (.int vc), .val (.int vd), .val (.int c0), .val (.int c1), .val (.int c2), .val (.int c3), .val (.ref b68), .val (.int (1 : Int32)), .val (.long (1 : Int64)), .second] []))
  refine OGo.on (fun t k => XS.lload X77.here hx rfl (hb hby at_60) rfl k) ?_
  show OGo p e below s _ _ _ (T77.setTop (mkF m 62 #[.val (.int va), .val (.int vb), .val (.int vc), .val (.int vd), .val (.int c0), .val (.int c1), .val (.int c2), .val (.int c3), .val (.ref b68), .val (.int (1 : Int32)), .val (.long (1 : Int64)), .second] [(.long (1 : Int64))]))
  refine OGo.on (fun t k => XS.iconst X77.here hx rfl (hb hby at_62) k) ?_
  show OGo p e below s _ _ _ (T77.setTop (mkF m 63 #[.val (.int va), .val (.int vb), .val (.int vc), .val (.int vd), .val (.int c0), .val (.int c1), .val (.int c2), .val (.int c3), .val (.ref b68), .val (.int (1 : Int32)), .val (.long (1 : Int64)), .second] [(.int (0 : Int32)), (.long (1 : Int64))]))
  refine OGo.on (fun t k => XS.bipush X77.here hx rfl (hb hby at_63) k) ?_
  show OGo p e below s _ _ _ (T77.setTop (mkF m 65 #[.val (.int va), .val (.int vb), .val (.int vc), .val (.int vd), .val (.int c0), .val (.int c1), .val (.int c2), .val (.int c3), .val (.ref b68), .val (.int (1 : Int32)), .val (.long (1 : Int64)), .second] [(.int (32 : Int32)), (.int (0 : Int32)), (.long (1 : Int64))]))
  refine OGo.on (fun t k => XS.iload X77.here hx rfl (hb hby at_65) rfl k) ?_
  show OGo p e below s _ _ _ (T77.setTop (mkF m 67 #[.val (.int va), .val (.int vb), .val (.int vc), .val (.int vd), .val (.int c0), .val (.int c1), .val (.int c2), .val (.int c3), .val (.ref b68), .val (.int (1 : Int32)), .val (.long (1 : Int64)), .second] [(.int c0), (.int (32 : Int32)), (.int (0 : Int32)), (.long (1 : Int64))]))
  obtain ⟨_, _, ⟨T80, L80, k80, n80⟩, -, X80, ⟨Lc80, hQ80, l80, y80, z80⟩, st80⟩ := Jvm.LawKit.callS X77 hx (y := (⟨"org/surnia/io/LineCounterPassPinLaw", "ends", "(ZCC)J"⟩ : MethodName)) hown (mvT hZ (hw _ (List.mem_of_getElem? (i := 28) rfl))) (mvT hZ (hw _ (List.mem_of_getElem? (i := 29) rfl))) (mvT hZ (hw _ (List.mem_of_getElem? (i := 2) rfl))) (mvT hZ (hw _ (List.mem_of_getElem? (i := 30) rfl))) (by decide) (backOf (W := 2) (own_mends l Z a0 hw [] (0 : Int32) (32 : Int32) c0 T77.heap n0 Z79) hZ (hw _ (List.mem_of_getElem? (i := 30) rfl)) (hw _ (List.mem_of_getElem? (i := 2) rfl)) (by decide) (by decide)) (g := (mkF m 67 #[.val (.int va), .val (.int vb), .val (.int vc), .val (.int vd), .val (.int c0), .val (.int c1), .val (.int c2), .val (.int c3), .val (.ref b68), .val (.int (1 : Int32)), .val (.long (1 : Int64)), .second] [(.int c0), (.int (32 : Int32)), (.int (0 : Int32)), (.long (1 : Int64))])) rfl (by rw [hml]; rfl) (argsL := [(.int (0 : Int32)), (.int (32 : Int32)), (.int c0)]) (rest := [(.long (1 : Int64))]) (lenOf own_pd4 rfl) rfl (by show 2 * 0 + _ ≤ _; exact Nat.le_of_eq rfl) (hb hby at_67) (fun _ _ => ⟨rfl, rfl, (by decide : 1 + 0 ≤ _), (by decide : 2 + 0 ≤ _)⟩)
  dsimp only [Pt.U, Pt.locs, Pt.cells, Pt.slots] at X80 l80 y80 z80 st80 hQ80
  subst l80 y80 z80
  obtain ⟨rfl, N80q, e80⟩ := hQ80
  have N80 := Fr.app N77 N80q
  refine OGo.on st80 ?_
  show OGo p e below s _ _ _ (T80.setTop (mkF m 70 #[.val (.int va), .val (.int vb), .val (.int vc), .val (.int vd), .val (.int c0), .val (.int c1), .val (.int c2), .val (.int c3), .val (.ref b68), .val (.int (1 : Int32)), .val (.long (1 : Int64)), .second] [(.long (own_ends (0 : Int32) (32 : Int32) c0)), (.long (1 : Int64))]))
  refine OGo.on (fun t k => XS.ladd X80.here hx rfl (hb hby at_70) rfl k) ?_
  show OGo p e below s _ _ _ (T80.setTop (mkF m 71 #[.val (.int va), .val (.int vb), .val (.int vc), .val (.int vd), .val (.int c0), .val (.int c1), .val (.int c2), .val (.int c3), .val (.ref b68), .val (.int (1 : Int32)), .val (.long (1 : Int64)), .second] [(.long ((1 : Int64) + (own_ends (0 : Int32) (32 : Int32) c0)))]))
  refine OGo.on (fun t k => XS.lstore X80.here hx rfl (hb hby at_71) rfl (l' := #[.val (.int va), .val (.int vb), .val (.int vc), .val (.int vd), .val (.int c0), .val (.int c1), .val (.int c2), .val (.int c3), .val (.ref b68), .val (.int (1 : Int32)), .val (.long ((1 : Int64) + (own_ends (0 : Int32) (32 : Int32) c0))), .second]) rfl k) ?_
  show OGo p e below s _ _ _ (T80.setTop (mkF m 73 #[.val (.int va), .val (.int vb), .val (.int vc), .val (.int vd), .val (.int c0), .val (.int c1), .val (.int c2), .val (.int c3), .val (.ref b68), .val (.int (1 : Int32)), .val (.long ((1 : Int64) + (own_ends (0 : Int32) (32 : Int32) c0))), .second] []))
  refine OGo.on (fun t k => XS.iload X80.here hx rfl (hb hby at_73) rfl k) ?_
  show OGo p e below s _ _ _ (T80.setTop (mkF m 75 #[.val (.int va), .val (.int vb), .val (.int vc), .val (.int vd), .val (.int c0), .val (.int c1), .val (.int c2), .val (.int c3), .val (.ref b68), .val (.int (1 : Int32)), .val (.long ((1 : Int64) + (own_ends (0 : Int32) (32 : Int32) c0))), .second] [(.int (1 : Int32))]))
  refine OGo.on (fun t k => XS.ifNo X80.here hx rfl (hb hby at_75) rfl ((if0 _ _).trans (feq (by decide)).1) k) ?_
  show OGo p e below s _ _ _ (T80.setTop (mkF m 78 #[.val (.int va), .val (.int vb), .val (.int vc), .val (.int vd), .val (.int c0), .val (.int c1), .val (.int c2), .val (.int c3), .val (.ref b68), .val (.int (1 : Int32)), .val (.long ((1 : Int64) + (own_ends (0 : Int32) (32 : Int32) c0))), .second] []))
  refine OGo.on (fun t k => XS.aload X80.here hx rfl (hb hby at_78) rfl rfl k) ?_
  show OGo p e below s _ _ _ (T80.setTop (mkF m 80 #[.val (.int va), .val (.int vb), .val (.int vc), .val (.int vd), .val (.int c0), .val (.int c1), .val (.int c2), .val (.int c3), .val (.ref b68), .val (.int (1 : Int32)), .val (.long ((1 : Int64) + (own_ends (0 : Int32) (32 : Int32) c0))), .second] [(.ref b68)]))
  obtain ⟨cq81, kq81, q81a, q81b, q81c⟩ := isOf hZ e80 f78
  obtain ⟨_, _, ⟨T81, L81, k81, n81⟩, -, X81, ⟨Lc81, hQ81, l81, y81, z81⟩, st81⟩ := X80.virtualBack hx (y := (⟨"org/surnia/io/LineCounter", "line", "()J"⟩ : MethodName)) (z := (⟨"org/surnia/io/LineCounter", "line", "()J"⟩ : MethodName)) hown (mvT hZ (hw _ (List.mem_of_getElem? (i := 16) rfl))) (mvT hZ (hw _ (List.mem_of_getElem? (i := 17) rfl))) (notFace_of_selects (args := #[]) (mvT hZ (hw _ (List.mem_of_getElem? (i := 19) rfl)))) (mvT hZ (hw _ (List.mem_of_getElem? (i := 19) rfl))) (mvT hZ (hw _ (List.mem_of_getElem? (i := 18) rfl))) (by decide) (backOf (W := 0) (own_mline l Z a0 hw [] b68 (own_pl c0 (1 : Int64) (0 : Int32)) T77.heap n0 Z79 Fw77_0) hZ (hw _ (List.mem_of_getElem? (i := 20) rfl)) (hw _ (List.mem_of_getElem? (i := 7) rfl)) (by decide) (by decide)) q81a q81c (g := (mkF m 80 #[.val (.int va), .val (.int vb), .val (.int vc), .val (.int vd), .val (.int c0), .val (.int c1), .val (.int c2), .val (.int c3), .val (.ref b68), .val (.int (1 : Int32)), .val (.long ((1 : Int64) + (own_ends (0 : Int32) (32 : Int32) c0))), .second] [(.ref b68)])) rfl (by rw [hml]; rfl) (Steps.refl _) (argsL := []) (rest := []) (lenOf own_pd2 rfl) rfl (by show 2 * 0 + _ ≤ _; exact Nat.le_of_eq rfl) (hb hby at_80) (fun _ _ => ⟨rfl, e80, (by decide : 1 + 0 ≤ _), (by decide : 2 + 0 ≤ _)⟩)
  dsimp only [Pt.U, Pt.locs, Pt.cells, Pt.slots] at X81 l81 y81 z81 st81 hQ81
  subst l81 y81 z81
  obtain ⟨rfl, N81q, e81⟩ := hQ81
  have N81 := Fr.app N80 N81q
  refine OGo.on (fun t k => st81.trans k) ?_
  show OGo p e below s _ _ _ (T81.setTop (mkF m 83 #[.val (.int va), .val (.int vb), .val (.int vc), .val (.int vd), .val (.int c0), .val (.int c1), .val (.int c2), .val (.int c3), .val (.ref b68), .val (.int (1 : Int32)), .val (.long ((1 : Int64) + (own_ends (0 : Int32) (32 : Int32) c0))), .second] [(.long (own_pl c0 (1 : Int64) (0 : Int32)))]))
  refine OGo.on (fun t k => XS.lload X81.here hx rfl (hb hby at_83) rfl k) ?_
  show OGo p e below s _ _ _ (T81.setTop (mkF m 85 #[.val (.int va), .val (.int vb), .val (.int vc), .val (.int vd), .val (.int c0), .val (.int c1), .val (.int c2), .val (.int c3), .val (.ref b68), .val (.int (1 : Int32)), .val (.long ((1 : Int64) + (own_ends (0 : Int32) (32 : Int32) c0))), .second] [(.long ((1 : Int64) + (own_ends (0 : Int32) (32 : Int32) c0))), (.long (own_pl c0 (1 : Int64) (0 : Int32)))]))
  refine OGo.on (fun t k => XS.lcmp X81.here hx rfl (hb hby at_85) rfl k) ?_
  show OGo p e below s _ _ _ (T81.setTop (mkF m 86 #[.val (.int va), .val (.int vb), .val (.int vc), .val (.int vd), .val (.int c0), .val (.int c1), .val (.int c2), .val (.int c3), .val (.ref b68), .val (.int (1 : Int32)), .val (.long ((1 : Int64) + (own_ends (0 : Int32) (32 : Int32) c0))), .second] [(.int (lcmpW (own_pl c0 (1 : Int64) (0 : Int32)) ((1 : Int64) + (own_ends (0 : Int32) (32 : Int32) c0))))]))
  refine OGo.on (fun t k => XS.ifNo X81.here hx rfl (hb hby at_86) rfl (lc_teq (own_s0 c0)).2 k) ?_
  show OGo p e below s _ _ _ (T81.setTop (mkF m 89 #[.val (.int va), .val (.int vb), .val (.int vc), .val (.int vd), .val (.int c0), .val (.int c1), .val (.int c2), .val (.int c3), .val (.ref b68), .val (.int (1 : Int32)), .val (.long ((1 : Int64) + (own_ends (0 : Int32) (32 : Int32) c0))), .second] []))
  refine OGo.on (fun t k => XS.iconst X81.here hx rfl (hb hby at_89) k) ?_
  show OGo p e below s _ _ _ (T81.setTop (mkF m 90 #[.val (.int va), .val (.int vb), .val (.int vc), .val (.int vd), .val (.int c0), .val (.int c1), .val (.int c2), .val (.int c3), .val (.ref b68), .val (.int (1 : Int32)), .val (.long ((1 : Int64) + (own_ends (0 : Int32) (32 : Int32) c0))), .second] [(.int (1 : Int32))]))
  refine OGo.on (fun t k => XS.goto X81.here hx rfl (pc0 := 90) (pc' := 94) rfl (hb hby at_90) (by decide) (by decide) k) ?_
  show OGo p e below s _ _ _ (T81.setTop (mkF m 94 #[.val (.int va), .val (.int vb), .val (.int vc), .val (.int vd), .val (.int c0), .val (.int c1), .val (.int c2), .val (.int c3), .val (.ref b68), .val (.int (1 : Int32)), .val (.long ((1 : Int64) + (own_ends (0 : Int32) (32 : Int32) c0))), .second] [(.int (1 : Int32))]))
  refine OGo.on (fun t k => XS.istore X81.here hx rfl (hb hby at_94) rfl (l' := #[.val (.int va), .val (.int vb), .val (.int vc), .val (.int vd), .val (.int c0), .val (.int c1), .val (.int c2), .val (.int c3), .val (.ref b68), .val (.int (1 : Int32)), .val (.long ((1 : Int64) + (own_ends (0 : Int32) (32 : Int32) c0))), .second]) rfl k) ?_
  show OGo p e below s _ _ _ (T81.setTop (mkF m 96 #[.val (.int va), .val (.int vb), .val (.int vc), .val (.int vd), .val (.int c0), .val (.int c1), .val (.int c2), .val (.int c3), .val (.ref b68), .val (.int (1 : Int32)), .val (.long ((1 : Int64) + (own_ends (0 : Int32) (32 : Int32) c0))), .second] []))
  refine OGo.on (fun t k => XS.aload X81.here hx rfl (hb hby at_96) rfl rfl k) ?_
  show OGo p e below s _ _ _ (T81.setTop (mkF m 98 #[.val (.int va), .val (.int vb), .val (.int vc), .val (.int vd), .val (.int c0), .val (.int c1), .val (.int c2), .val (.int c3), .val (.ref b68), .val (.int (1 : Int32)), .val (.long ((1 : Int64) + (own_ends (0 : Int32) (32 : Int32) c0))), .second] [(.ref b68)]))
  refine OGo.on (fun t k => XS.iload X81.here hx rfl (hb hby at_98) rfl k) ?_
  show OGo p e below s _ _ _ (T81.setTop (mkF m 100 #[.val (.int va), .val (.int vb), .val (.int vc), .val (.int vd), .val (.int c0), .val (.int c1), .val (.int c2), .val (.int c3), .val (.ref b68), .val (.int (1 : Int32)), .val (.long ((1 : Int64) + (own_ends (0 : Int32) (32 : Int32) c0))), .second] [(.int c1), (.ref b68)]))
  obtain ⟨cq82, kq82, q82a, q82b, q82c⟩ := isOf hZ e81 f78
  obtain ⟨_, _, ⟨T82, L82, k82, n82⟩, -, X82, ⟨Lc82, hQ82, l82, y82, z82⟩, st82⟩ := X81.virtualBack hx (y := (⟨"org/surnia/io/LineCounter", "pass", "(C)V"⟩ : MethodName)) (z := (⟨"org/surnia/io/LineCounter", "pass", "(C)V"⟩ : MethodName)) hown (mvT hZ (hw _ (List.mem_of_getElem? (i := 21) rfl))) (mvT hZ (hw _ (List.mem_of_getElem? (i := 22) rfl))) (notFace_of_selects (args := #[]) (mvT hZ (hw _ (List.mem_of_getElem? (i := 24) rfl)))) (mvT hZ (hw _ (List.mem_of_getElem? (i := 24) rfl))) (mvT hZ (hw _ (List.mem_of_getElem? (i := 23) rfl))) (by decide) (backOf (W := 0) (own_mpass l Z a0 hw [] b68 c1 (own_pl c0 (1 : Int64) (0 : Int32)) (own_pf c0) T77.heap n0 Z79 ge69 f78 Fw77_0 Fw77_1) hZ (hw _ (List.mem_of_getElem? (i := 25) rfl)) (hw _ (List.mem_of_getElem? (i := 7) rfl)) (by decide) (by decide)) q82a q82c (g := (mkF m 100 #[.val (.int va), .val (.int vb), .val (.int vc), .val (.int vd), .val (.int c0), .val (.int c1), .val (.int c2), .val (.int c3), .val (.ref b68), .val (.int (1 : Int32)), .val (.long ((1 : Int64) + (own_ends (0 : Int32) (32 : Int32) c0))), .second] [(.int c1), (.ref b68)])) rfl (by rw [hml]; rfl) (Steps.refl _) (argsL := [(.int c1)]) (rest := []) (lenOf own_pd3 rfl) rfl (by show 2 * 0 + _ ≤ _; exact Nat.le_of_eq rfl) (hb hby at_100) (fun _ _ => ⟨rfl, e81, (by decide : 1 + 0 ≤ _), (by decide : 2 + 0 ≤ _)⟩)
  dsimp only [Pt.U, Pt.locs, Pt.cells, Pt.slots] at X82 l82 y82 z82 st82 hQ82
  subst l82 y82 z82
  obtain ⟨rfl, N82q, K82, Fw82_0', Fw82_1'⟩ := hQ82
  have N82 := Fr.app N81 N82q
  have Fw82_0 : Fld Z T82.heap b68 "org/surnia/io/LineCounter" "line" "J" (.long (own_pl c1 (own_pl c0 (1 : Int64) (0 : Int32)) (own_pf c0))) := Fw82_0'
  have Fw82_1 : Fld Z T82.heap b68 "org/surnia/io/LineCounter" "afterCarriageReturn" "Z" (.int (own_pf c1)) := Fw82_1'
  have f83 : Exa Z T82.heap b68 "org/surnia/io/LineCounter" := f78.keep K82
  have Z84 : n0 ≤ T82.heap.size := Nat.le_trans Z79 K82.1
  refine OGo.on (fun t k => st82.trans k) ?_
  show OGo p e below s _ _ _ (T82.setTop (mkF m 103 #[.val (.int va), .val (.int vb), .val (.int vc), .val (.int vd), .val (.int c0), .val (.int c1), .val (.int c2), .val (.int c3), .val (.ref b68), .val (.int (1 : Int32)), .val (.long ((1 : Int64) + (own_ends (0 : Int32) (32 : Int32) c0))), .second] []))
  refine OGo.on (fun t k => XS.lload X82.here hx rfl (hb hby at_103) rfl k) ?_
  show OGo p e below s _ _ _ (T82.setTop (mkF m 105 #[.val (.int va), .val (.int vb), .val (.int vc), .val (.int vd), .val (.int c0), .val (.int c1), .val (.int c2), .val (.int c3), .val (.ref b68), .val (.int (1 : Int32)), .val (.long ((1 : Int64) + (own_ends (0 : Int32) (32 : Int32) c0))), .second] [(.long ((1 : Int64) + (own_ends (0 : Int32) (32 : Int32) c0)))]))
  refine OGo.on (fun t k => XS.iconst X82.here hx rfl (hb hby at_105) k) ?_
  show OGo p e below s _ _ _ (T82.setTop (mkF m 106 #[.val (.int va), .val (.int vb), .val (.int vc), .val (.int vd), .val (.int c0), .val (.int c1), .val (.int c2), .val (.int c3), .val (.ref b68), .val (.int (1 : Int32)), .val (.long ((1 : Int64) + (own_ends (0 : Int32) (32 : Int32) c0))), .second] [(.int (1 : Int32)), (.long ((1 : Int64) + (own_ends (0 : Int32) (32 : Int32) c0)))]))
  refine OGo.on (fun t k => XS.iload X82.here hx rfl (hb hby at_106) rfl k) ?_
  show OGo p e below s _ _ _ (T82.setTop (mkF m 108 #[.val (.int va), .val (.int vb), .val (.int vc), .val (.int vd), .val (.int c0), .val (.int c1), .val (.int c2), .val (.int c3), .val (.ref b68), .val (.int (1 : Int32)), .val (.long ((1 : Int64) + (own_ends (0 : Int32) (32 : Int32) c0))), .second] [(.int c0), (.int (1 : Int32)), (.long ((1 : Int64) + (own_ends (0 : Int32) (32 : Int32) c0)))]))
  refine OGo.on (fun t k => XS.iload X82.here hx rfl (hb hby at_108) rfl k) ?_
  show OGo p e below s _ _ _ (T82.setTop (mkF m 110 #[.val (.int va), .val (.int vb), .val (.int vc), .val (.int vd), .val (.int c0), .val (.int c1), .val (.int c2), .val (.int c3), .val (.ref b68), .val (.int (1 : Int32)), .val (.long ((1 : Int64) + (own_ends (0 : Int32) (32 : Int32) c0))), .second] [(.int c1), (.int c0), (.int (1 : Int32)), (.long ((1 : Int64) + (own_ends (0 : Int32) (32 : Int32) c0)))]))
  obtain ⟨_, _, ⟨T85, L85, k85, n85⟩, -, X85, ⟨Lc85, hQ85, l85, y85, z85⟩, st85⟩ := Jvm.LawKit.callS X82 hx (y := (⟨"org/surnia/io/LineCounterPassPinLaw", "ends", "(ZCC)J"⟩ : MethodName)) hown (mvT hZ (hw _ (List.mem_of_getElem? (i := 28) rfl))) (mvT hZ (hw _ (List.mem_of_getElem? (i := 29) rfl))) (mvT hZ (hw _ (List.mem_of_getElem? (i := 2) rfl))) (mvT hZ (hw _ (List.mem_of_getElem? (i := 30) rfl))) (by decide) (backOf (W := 2) (own_mends l Z a0 hw [] (1 : Int32) c0 c1 T82.heap n0 Z84) hZ (hw _ (List.mem_of_getElem? (i := 30) rfl)) (hw _ (List.mem_of_getElem? (i := 2) rfl)) (by decide) (by decide)) (g := (mkF m 110 #[.val (.int va), .val (.int vb), .val (.int vc), .val (.int vd), .val (.int c0), .val (.int c1), .val (.int c2), .val (.int c3), .val (.ref b68), .val (.int (1 : Int32)), .val (.long ((1 : Int64) + (own_ends (0 : Int32) (32 : Int32) c0))), .second] [(.int c1), (.int c0), (.int (1 : Int32)), (.long ((1 : Int64) + (own_ends (0 : Int32) (32 : Int32) c0)))])) rfl (by rw [hml]; rfl) (argsL := [(.int (1 : Int32)), (.int c0), (.int c1)]) (rest := [(.long ((1 : Int64) + (own_ends (0 : Int32) (32 : Int32) c0)))]) (lenOf own_pd4 rfl) rfl (by show 2 * 0 + _ ≤ _; exact Nat.le_of_eq rfl) (hb hby at_110) (fun _ _ => ⟨rfl, rfl, (by decide : 1 + 0 ≤ _), (by decide : 2 + 0 ≤ _)⟩)
  dsimp only [Pt.U, Pt.locs, Pt.cells, Pt.slots] at X85 l85 y85 z85 st85 hQ85
  subst l85 y85 z85
  obtain ⟨rfl, N85q, e85⟩ := hQ85
  have N85 := Fr.app N82 N85q
  refine OGo.on st85 ?_
  show OGo p e below s _ _ _ (T85.setTop (mkF m 113 #[.val (.int va), .val (.int vb), .val (.int vc), .val (.int vd), .val (.int c0), .val (.int c1), .val (.int c2), .val (.int c3), .val (.ref b68), .val (.int (1 : Int32)), .val (.long ((1 : Int64) + (own_ends (0 : Int32) (32 : Int32) c0))), .second] [(.long (own_ends (1 : Int32) c0 c1)), (.long ((1 : Int64) + (own_ends (0 : Int32) (32 : Int32) c0)))]))
  refine OGo.on (fun t k => XS.ladd X85.here hx rfl (hb hby at_113) rfl k) ?_
  show OGo p e below s _ _ _ (T85.setTop (mkF m 114 #[.val (.int va), .val (.int vb), .val (.int vc), .val (.int vd), .val (.int c0), .val (.int c1), .val (.int c2), .val (.int c3), .val (.ref b68), .val (.int (1 : Int32)), .val (.long ((1 : Int64) + (own_ends (0 : Int32) (32 : Int32) c0))), .second] [(.long (((1 : Int64) + (own_ends (0 : Int32) (32 : Int32) c0)) + (own_ends (1 : Int32) c0 c1)))]))
  refine OGo.on (fun t k => XS.lstore X85.here hx rfl (hb hby at_114) rfl (l' := #[.val (.int va), .val (.int vb), .val (.int vc), .val (.int vd), .val (.int c0), .val (.int c1), .val (.int c2), .val (.int c3), .val (.ref b68), .val (.int (1 : Int32)), .val (.long (((1 : Int64) + (own_ends (0 : Int32) (32 : Int32) c0)) + (own_ends (1 : Int32) c0 c1))), .second]) rfl k) ?_
  show OGo p e below s _ _ _ (T85.setTop (mkF m 116 #[.val (.int va), .val (.int vb), .val (.int vc), .val (.int vd), .val (.int c0), .val (.int c1), .val (.int c2), .val (.int c3), .val (.ref b68), .val (.int (1 : Int32)), .val (.long (((1 : Int64) + (own_ends (0 : Int32) (32 : Int32) c0)) + (own_ends (1 : Int32) c0 c1))), .second] []))
  refine OGo.on (fun t k => XS.iload X85.here hx rfl (hb hby at_116) rfl k) ?_
  show OGo p e below s _ _ _ (T85.setTop (mkF m 118 #[.val (.int va), .val (.int vb), .val (.int vc), .val (.int vd), .val (.int c0), .val (.int c1), .val (.int c2), .val (.int c3), .val (.ref b68), .val (.int (1 : Int32)), .val (.long (((1 : Int64) + (own_ends (0 : Int32) (32 : Int32) c0)) + (own_ends (1 : Int32) c0 c1))), .second] [(.int (1 : Int32))]))
  refine OGo.on (fun t k => XS.ifNo X85.here hx rfl (hb hby at_118) rfl ((if0 _ _).trans (feq (by decide)).1) k) ?_
  show OGo p e below s _ _ _ (T85.setTop (mkF m 121 #[.val (.int va), .val (.int vb), .val (.int vc), .val (.int vd), .val (.int c0), .val (.int c1), .val (.int c2), .val (.int c3), .val (.ref b68), .val (.int (1 : Int32)), .val (.long (((1 : Int64) + (own_ends (0 : Int32) (32 : Int32) c0)) + (own_ends (1 : Int32) c0 c1))), .second] []))
  refine OGo.on (fun t k => XS.aload X85.here hx rfl (hb hby at_121) rfl rfl k) ?_
  show OGo p e below s _ _ _ (T85.setTop (mkF m 123 #[.val (.int va), .val (.int vb), .val (.int vc), .val (.int vd), .val (.int c0), .val (.int c1), .val (.int c2), .val (.int c3), .val (.ref b68), .val (.int (1 : Int32)), .val (.long (((1 : Int64) + (own_ends (0 : Int32) (32 : Int32) c0)) + (own_ends (1 : Int32) c0 c1))), .second] [(.ref b68)]))
  obtain ⟨cq86, kq86, q86a, q86b, q86c⟩ := isOf hZ e85 f83
  obtain ⟨_, _, ⟨T86, L86, k86, n86⟩, -, X86, ⟨Lc86, hQ86, l86, y86, z86⟩, st86⟩ := X85.virtualBack hx (y := (⟨"org/surnia/io/LineCounter", "line", "()J"⟩ : MethodName)) (z := (⟨"org/surnia/io/LineCounter", "line", "()J"⟩ : MethodName)) hown (mvT hZ (hw _ (List.mem_of_getElem? (i := 16) rfl))) (mvT hZ (hw _ (List.mem_of_getElem? (i := 17) rfl))) (notFace_of_selects (args := #[]) (mvT hZ (hw _ (List.mem_of_getElem? (i := 19) rfl)))) (mvT hZ (hw _ (List.mem_of_getElem? (i := 19) rfl))) (mvT hZ (hw _ (List.mem_of_getElem? (i := 18) rfl))) (by decide) (backOf (W := 0) (own_mline l Z a0 hw [] b68 (own_pl c1 (own_pl c0 (1 : Int64) (0 : Int32)) (own_pf c0)) T82.heap n0 Z84 Fw82_0) hZ (hw _ (List.mem_of_getElem? (i := 20) rfl)) (hw _ (List.mem_of_getElem? (i := 7) rfl)) (by decide) (by decide)) q86a q86c (g := (mkF m 123 #[.val (.int va), .val (.int vb), .val (.int vc), .val (.int vd), .val (.int c0), .val (.int c1), .val (.int c2), .val (.int c3), .val (.ref b68), .val (.int (1 : Int32)), .val (.long (((1 : Int64) + (own_ends (0 : Int32) (32 : Int32) c0)) + (own_ends (1 : Int32) c0 c1))), .second] [(.ref b68)])) rfl (by rw [hml]; rfl) (Steps.refl _) (argsL := []) (rest := []) (lenOf own_pd2 rfl) rfl (by show 2 * 0 + _ ≤ _; exact Nat.le_of_eq rfl) (hb hby at_123) (fun _ _ => ⟨rfl, e85, (by decide : 1 + 0 ≤ _), (by decide : 2 + 0 ≤ _)⟩)
  dsimp only [Pt.U, Pt.locs, Pt.cells, Pt.slots] at X86 l86 y86 z86 st86 hQ86
  subst l86 y86 z86
  obtain ⟨rfl, N86q, e86⟩ := hQ86
  have N86 := Fr.app N85 N86q
  refine OGo.on (fun t k => st86.trans k) ?_
  show OGo p e below s _ _ _ (T86.setTop (mkF m 126 #[.val (.int va), .val (.int vb), .val (.int vc), .val (.int vd), .val (.int c0), .val (.int c1), .val (.int c2), .val (.int c3), .val (.ref b68), .val (.int (1 : Int32)), .val (.long (((1 : Int64) + (own_ends (0 : Int32) (32 : Int32) c0)) + (own_ends (1 : Int32) c0 c1))), .second] [(.long (own_pl c1 (own_pl c0 (1 : Int64) (0 : Int32)) (own_pf c0)))]))
  refine OGo.on (fun t k => XS.lload X86.here hx rfl (hb hby at_126) rfl k) ?_
  show OGo p e below s _ _ _ (T86.setTop (mkF m 128 #[.val (.int va), .val (.int vb), .val (.int vc), .val (.int vd), .val (.int c0), .val (.int c1), .val (.int c2), .val (.int c3), .val (.ref b68), .val (.int (1 : Int32)), .val (.long (((1 : Int64) + (own_ends (0 : Int32) (32 : Int32) c0)) + (own_ends (1 : Int32) c0 c1))), .second] [(.long (((1 : Int64) + (own_ends (0 : Int32) (32 : Int32) c0)) + (own_ends (1 : Int32) c0 c1))), (.long (own_pl c1 (own_pl c0 (1 : Int64) (0 : Int32)) (own_pf c0)))]))
  refine OGo.on (fun t k => XS.lcmp X86.here hx rfl (hb hby at_128) rfl k) ?_
  show OGo p e below s _ _ _ (T86.setTop (mkF m 129 #[.val (.int va), .val (.int vb), .val (.int vc), .val (.int vd), .val (.int c0), .val (.int c1), .val (.int c2), .val (.int c3), .val (.ref b68), .val (.int (1 : Int32)), .val (.long (((1 : Int64) + (own_ends (0 : Int32) (32 : Int32) c0)) + (own_ends (1 : Int32) c0 c1))), .second] [(.int (lcmpW (own_pl c1 (own_pl c0 (1 : Int64) (0 : Int32)) (own_pf c0)) (((1 : Int64) + (own_ends (0 : Int32) (32 : Int32) c0)) + (own_ends (1 : Int32) c0 c1))))]))
  refine OGo.on (fun t k => XS.ifNo X86.here hx rfl (hb hby at_129) rfl (lc_teq (own_s c1 c0 (own_s0 c0))).2 k) ?_
  show OGo p e below s _ _ _ (T86.setTop (mkF m 132 #[.val (.int va), .val (.int vb), .val (.int vc), .val (.int vd), .val (.int c0), .val (.int c1), .val (.int c2), .val (.int c3), .val (.ref b68), .val (.int (1 : Int32)), .val (.long (((1 : Int64) + (own_ends (0 : Int32) (32 : Int32) c0)) + (own_ends (1 : Int32) c0 c1))), .second] []))
  refine OGo.on (fun t k => XS.iconst X86.here hx rfl (hb hby at_132) k) ?_
  show OGo p e below s _ _ _ (T86.setTop (mkF m 133 #[.val (.int va), .val (.int vb), .val (.int vc), .val (.int vd), .val (.int c0), .val (.int c1), .val (.int c2), .val (.int c3), .val (.ref b68), .val (.int (1 : Int32)), .val (.long (((1 : Int64) + (own_ends (0 : Int32) (32 : Int32) c0)) + (own_ends (1 : Int32) c0 c1))), .second] [(.int (1 : Int32))]))
  refine OGo.on (fun t k => XS.goto X86.here hx rfl (pc0 := 133) (pc' := 137) rfl (hb hby at_133) (by decide) (by decide) k) ?_
  show OGo p e below s _ _ _ (T86.setTop (mkF m 137 #[.val (.int va), .val (.int vb), .val (.int vc), .val (.int vd), .val (.int c0), .val (.int c1), .val (.int c2), .val (.int c3), .val (.ref b68), .val (.int (1 : Int32)), .val (.long (((1 : Int64) + (own_ends (0 : Int32) (32 : Int32) c0)) + (own_ends (1 : Int32) c0 c1))), .second] [(.int (1 : Int32))]))
  refine OGo.on (fun t k => XS.istore X86.here hx rfl (hb hby at_137) rfl (l' := #[.val (.int va), .val (.int vb), .val (.int vc), .val (.int vd), .val (.int c0), .val (.int c1), .val (.int c2), .val (.int c3), .val (.ref b68), .val (.int (1 : Int32)), .val (.long (((1 : Int64) + (own_ends (0 : Int32) (32 : Int32) c0)) + (own_ends (1 : Int32) c0 c1))), .second]) rfl k) ?_
  show OGo p e below s _ _ _ (T86.setTop (mkF m 139 #[.val (.int va), .val (.int vb), .val (.int vc), .val (.int vd), .val (.int c0), .val (.int c1), .val (.int c2), .val (.int c3), .val (.ref b68), .val (.int (1 : Int32)), .val (.long (((1 : Int64) + (own_ends (0 : Int32) (32 : Int32) c0)) + (own_ends (1 : Int32) c0 c1))), .second] []))
  refine OGo.on (fun t k => XS.aload X86.here hx rfl (hb hby at_139) rfl rfl k) ?_
  show OGo p e below s _ _ _ (T86.setTop (mkF m 141 #[.val (.int va), .val (.int vb), .val (.int vc), .val (.int vd), .val (.int c0), .val (.int c1), .val (.int c2), .val (.int c3), .val (.ref b68), .val (.int (1 : Int32)), .val (.long (((1 : Int64) + (own_ends (0 : Int32) (32 : Int32) c0)) + (own_ends (1 : Int32) c0 c1))), .second] [(.ref b68)]))
  refine OGo.on (fun t k => XS.iload X86.here hx rfl (hb hby at_141) rfl k) ?_
  show OGo p e below s _ _ _ (T86.setTop (mkF m 143 #[.val (.int va), .val (.int vb), .val (.int vc), .val (.int vd), .val (.int c0), .val (.int c1), .val (.int c2), .val (.int c3), .val (.ref b68), .val (.int (1 : Int32)), .val (.long (((1 : Int64) + (own_ends (0 : Int32) (32 : Int32) c0)) + (own_ends (1 : Int32) c0 c1))), .second] [(.int c2), (.ref b68)]))
  obtain ⟨cq87, kq87, q87a, q87b, q87c⟩ := isOf hZ e86 f83
  obtain ⟨_, _, ⟨T87, L87, k87, n87⟩, -, X87, ⟨Lc87, hQ87, l87, y87, z87⟩, st87⟩ := X86.virtualBack hx (y := (⟨"org/surnia/io/LineCounter", "pass", "(C)V"⟩ : MethodName)) (z := (⟨"org/surnia/io/LineCounter", "pass", "(C)V"⟩ : MethodName)) hown (mvT hZ (hw _ (List.mem_of_getElem? (i := 21) rfl))) (mvT hZ (hw _ (List.mem_of_getElem? (i := 22) rfl))) (notFace_of_selects (args := #[]) (mvT hZ (hw _ (List.mem_of_getElem? (i := 24) rfl)))) (mvT hZ (hw _ (List.mem_of_getElem? (i := 24) rfl))) (mvT hZ (hw _ (List.mem_of_getElem? (i := 23) rfl))) (by decide) (backOf (W := 0) (own_mpass l Z a0 hw [] b68 c2 (own_pl c1 (own_pl c0 (1 : Int64) (0 : Int32)) (own_pf c0)) (own_pf c1) T82.heap n0 Z84 ge69 f83 Fw82_0 Fw82_1) hZ (hw _ (List.mem_of_getElem? (i := 25) rfl)) (hw _ (List.mem_of_getElem? (i := 7) rfl)) (by decide) (by decide)) q87a q87c (g := (mkF m 143 #[.val (.int va), .val (.int vb), .val (.int vc), .val (.int vd), .val (.int c0), .val (.int c1), .val (.int c2), .val (.int c3), .val (.ref b68), .val (.int (1 : Int32)), .val (.long (((1 : Int64) + (own_ends (0 : Int32) (32 : Int32) c0)) + (own_ends (1 : Int32) c0 c1))), .second] [(.int c2), (.ref b68)])) rfl (by rw [hml]; rfl) (Steps.refl _) (argsL := [(.int c2)]) (rest := []) (lenOf own_pd3 rfl) rfl (by show 2 * 0 + _ ≤ _; exact Nat.le_of_eq rfl) (hb hby at_143) (fun _ _ => ⟨rfl, e86, (by decide : 1 + 0 ≤ _), (by decide : 2 + 0 ≤ _)⟩)
  dsimp only [Pt.U, Pt.locs, Pt.cells, Pt.slots] at X87 l87 y87 z87 st87 hQ87
  subst l87 y87 z87
  obtain ⟨rfl, N87q, K87, Fw87_0', Fw87_1'⟩ := hQ87
  have N87 := Fr.app N86 N87q
  have Fw87_0 : Fld Z T87.heap b68 "org/surnia/io/LineCounter" "line" "J" (.long (own_pl c2 (own_pl c1 (own_pl c0 (1 : Int64) (0 : Int32)) (own_pf c0)) (own_pf c1))) := Fw87_0'
  have Fw87_1 : Fld Z T87.heap b68 "org/surnia/io/LineCounter" "afterCarriageReturn" "Z" (.int (own_pf c2)) := Fw87_1'
  have f88 : Exa Z T87.heap b68 "org/surnia/io/LineCounter" := f83.keep K87
  have Z89 : n0 ≤ T87.heap.size := Nat.le_trans Z84 K87.1
  refine OGo.on (fun t k => st87.trans k) ?_
  show OGo p e below s _ _ _ (T87.setTop (mkF m 146 #[.val (.int va), .val (.int vb), .val (.int vc), .val (.int vd), .val (.int c0), .val (.int c1), .val (.int c2), .val (.int c3), .val (.ref b68), .val (.int (1 : Int32)), .val (.long (((1 : Int64) + (own_ends (0 : Int32) (32 : Int32) c0)) + (own_ends (1 : Int32) c0 c1))), .second] []))
  refine OGo.on (fun t k => XS.lload X87.here hx rfl (hb hby at_146) rfl k) ?_
  show OGo p e below s _ _ _ (T87.setTop (mkF m 148 #[.val (.int va), .val (.int vb), .val (.int vc), .val (.int vd), .val (.int c0), .val (.int c1), .val (.int c2), .val (.int c3), .val (.ref b68), .val (.int (1 : Int32)), .val (.long (((1 : Int64) + (own_ends (0 : Int32) (32 : Int32) c0)) + (own_ends (1 : Int32) c0 c1))), .second] [(.long (((1 : Int64) + (own_ends (0 : Int32) (32 : Int32) c0)) + (own_ends (1 : Int32) c0 c1)))]))
  refine OGo.on (fun t k => XS.iconst X87.here hx rfl (hb hby at_148) k) ?_
  show OGo p e below s _ _ _ (T87.setTop (mkF m 149 #[.val (.int va), .val (.int vb), .val (.int vc), .val (.int vd), .val (.int c0), .val (.int c1), .val (.int c2), .val (.int c3), .val (.ref b68), .val (.int (1 : Int32)), .val (.long (((1 : Int64) + (own_ends (0 : Int32) (32 : Int32) c0)) + (own_ends (1 : Int32) c0 c1))), .second] [(.int (1 : Int32)), (.long (((1 : Int64) + (own_ends (0 : Int32) (32 : Int32) c0)) + (own_ends (1 : Int32) c0 c1)))]))
  refine OGo.on (fun t k => XS.iload X87.here hx rfl (hb hby at_149) rfl k) ?_
  show OGo p e below s _ _ _ (T87.setTop (mkF m 151 #[.val (.int va), .val (.int vb), .val (.int vc), .val (.int vd), .val (.int c0), .val (.int c1), .val (.int c2), .val (.int c3), .val (.ref b68), .val (.int (1 : Int32)), .val (.long (((1 : Int64) + (own_ends (0 : Int32) (32 : Int32) c0)) + (own_ends (1 : Int32) c0 c1))), .second] [(.int c1), (.int (1 : Int32)), (.long (((1 : Int64) + (own_ends (0 : Int32) (32 : Int32) c0)) + (own_ends (1 : Int32) c0 c1)))]))
  refine OGo.on (fun t k => XS.iload X87.here hx rfl (hb hby at_151) rfl k) ?_
  show OGo p e below s _ _ _ (T87.setTop (mkF m 153 #[.val (.int va), .val (.int vb), .val (.int vc), .val (.int vd), .val (.int c0), .val (.int c1), .val (.int c2), .val (.int c3), .val (.ref b68), .val (.int (1 : Int32)), .val (.long (((1 : Int64) + (own_ends (0 : Int32) (32 : Int32) c0)) + (own_ends (1 : Int32) c0 c1))), .second] [(.int c2), (.int c1), (.int (1 : Int32)), (.long (((1 : Int64) + (own_ends (0 : Int32) (32 : Int32) c0)) + (own_ends (1 : Int32) c0 c1)))]))
  obtain ⟨_, _, ⟨T90, L90, k90, n90⟩, -, X90, ⟨Lc90, hQ90, l90, y90, z90⟩, st90⟩ := Jvm.LawKit.callS X87 hx (y := (⟨"org/surnia/io/LineCounterPassPinLaw", "ends", "(ZCC)J"⟩ : MethodName)) hown (mvT hZ (hw _ (List.mem_of_getElem? (i := 28) rfl))) (mvT hZ (hw _ (List.mem_of_getElem? (i := 29) rfl))) (mvT hZ (hw _ (List.mem_of_getElem? (i := 2) rfl))) (mvT hZ (hw _ (List.mem_of_getElem? (i := 30) rfl))) (by decide) (backOf (W := 2) (own_mends l Z a0 hw [] (1 : Int32) c1 c2 T87.heap n0 Z89) hZ (hw _ (List.mem_of_getElem? (i := 30) rfl)) (hw _ (List.mem_of_getElem? (i := 2) rfl)) (by decide) (by decide)) (g := (mkF m 153 #[.val (.int va), .val (.int vb), .val (.int vc), .val (.int vd), .val (.int c0), .val (.int c1), .val (.int c2), .val (.int c3), .val (.ref b68), .val (.int (1 : Int32)), .val (.long (((1 : Int64) + (own_ends (0 : Int32) (32 : Int32) c0)) + (own_ends (1 : Int32) c0 c1))), .second] [(.int c2), (.int c1), (.int (1 : Int32)), (.long (((1 : Int64) + (own_ends (0 : Int32) (32 : Int32) c0)) + (own_ends (1 : Int32) c0 c1)))])) rfl (by rw [hml]; rfl) (argsL := [(.int (1 : Int32)), (.int c1), (.int c2)]) (rest := [(.long (((1 : Int64) + (own_ends (0 : Int32) (32 : Int32) c0)) + (own_ends (1 : Int32) c0 c1)))]) (lenOf own_pd4 rfl) rfl (by show 2 * 0 + _ ≤ _; exact Nat.le_of_eq rfl) (hb hby at_153) (fun _ _ => ⟨rfl, rfl, (by decide : 1 + 0 ≤ _), (by decide : 2 + 0 ≤ _)⟩)
  dsimp only [Pt.U, Pt.locs, Pt.cells, Pt.slots] at X90 l90 y90 z90 st90 hQ90
  subst l90 y90 z90
  obtain ⟨rfl, N90q, e90⟩ := hQ90
  have N90 := Fr.app N87 N90q
  refine OGo.on st90 ?_
  show OGo p e below s _ _ _ (T90.setTop (mkF m 156 #[.val (.int va), .val (.int vb), .val (.int vc), .val (.int vd), .val (.int c0), .val (.int c1), .val (.int c2), .val (.int c3), .val (.ref b68), .val (.int (1 : Int32)), .val (.long (((1 : Int64) + (own_ends (0 : Int32) (32 : Int32) c0)) + (own_ends (1 : Int32) c0 c1))), .second] [(.long (own_ends (1 : Int32) c1 c2)), (.long (((1 : Int64) + (own_ends (0 : Int32) (32 : Int32) c0)) + (own_ends (1 : Int32) c0 c1)))]))
  refine OGo.on (fun t k => XS.ladd X90.here hx rfl (hb hby at_156) rfl k) ?_
  show OGo p e below s _ _ _ (T90.setTop (mkF m 157 #[.val (.int va), .val (.int vb), .val (.int vc), .val (.int vd), .val (.int c0), .val (.int c1), .val (.int c2), .val (.int c3), .val (.ref b68), .val (.int (1 : Int32)), .val (.long (((1 : Int64) + (own_ends (0 : Int32) (32 : Int32) c0)) + (own_ends (1 : Int32) c0 c1))), .second] [(.long ((((1 : Int64) + (own_ends (0 : Int32) (32 : Int32) c0)) + (own_ends (1 : Int32) c0 c1)) + (own_ends (1 : Int32) c1 c2)))]))
  refine OGo.on (fun t k => XS.lstore X90.here hx rfl (hb hby at_157) rfl (l' := #[.val (.int va), .val (.int vb), .val (.int vc), .val (.int vd), .val (.int c0), .val (.int c1), .val (.int c2), .val (.int c3), .val (.ref b68), .val (.int (1 : Int32)), .val (.long ((((1 : Int64) + (own_ends (0 : Int32) (32 : Int32) c0)) + (own_ends (1 : Int32) c0 c1)) + (own_ends (1 : Int32) c1 c2))), .second]) rfl k) ?_
  show OGo p e below s _ _ _ (T90.setTop (mkF m 159 #[.val (.int va), .val (.int vb), .val (.int vc), .val (.int vd), .val (.int c0), .val (.int c1), .val (.int c2), .val (.int c3), .val (.ref b68), .val (.int (1 : Int32)), .val (.long ((((1 : Int64) + (own_ends (0 : Int32) (32 : Int32) c0)) + (own_ends (1 : Int32) c0 c1)) + (own_ends (1 : Int32) c1 c2))), .second] []))
  refine OGo.on (fun t k => XS.iload X90.here hx rfl (hb hby at_159) rfl k) ?_
  show OGo p e below s _ _ _ (T90.setTop (mkF m 161 #[.val (.int va), .val (.int vb), .val (.int vc), .val (.int vd), .val (.int c0), .val (.int c1), .val (.int c2), .val (.int c3), .val (.ref b68), .val (.int (1 : Int32)), .val (.long ((((1 : Int64) + (own_ends (0 : Int32) (32 : Int32) c0)) + (own_ends (1 : Int32) c0 c1)) + (own_ends (1 : Int32) c1 c2))), .second] [(.int (1 : Int32))]))
  refine OGo.on (fun t k => XS.ifNo X90.here hx rfl (hb hby at_161) rfl ((if0 _ _).trans (feq (by decide)).1) k) ?_
  show OGo p e below s _ _ _ (T90.setTop (mkF m 164 #[.val (.int va), .val (.int vb), .val (.int vc), .val (.int vd), .val (.int c0), .val (.int c1), .val (.int c2), .val (.int c3), .val (.ref b68), .val (.int (1 : Int32)), .val (.long ((((1 : Int64) + (own_ends (0 : Int32) (32 : Int32) c0)) + (own_ends (1 : Int32) c0 c1)) + (own_ends (1 : Int32) c1 c2))), .second] []))
  refine OGo.on (fun t k => XS.aload X90.here hx rfl (hb hby at_164) rfl rfl k) ?_
  show OGo p e below s _ _ _ (T90.setTop (mkF m 166 #[.val (.int va), .val (.int vb), .val (.int vc), .val (.int vd), .val (.int c0), .val (.int c1), .val (.int c2), .val (.int c3), .val (.ref b68), .val (.int (1 : Int32)), .val (.long ((((1 : Int64) + (own_ends (0 : Int32) (32 : Int32) c0)) + (own_ends (1 : Int32) c0 c1)) + (own_ends (1 : Int32) c1 c2))), .second] [(.ref b68)]))
  obtain ⟨cq91, kq91, q91a, q91b, q91c⟩ := isOf hZ e90 f88
  obtain ⟨_, _, ⟨T91, L91, k91, n91⟩, -, X91, ⟨Lc91, hQ91, l91, y91, z91⟩, st91⟩ := X90.virtualBack hx (y := (⟨"org/surnia/io/LineCounter", "line", "()J"⟩ : MethodName)) (z := (⟨"org/surnia/io/LineCounter", "line", "()J"⟩ : MethodName)) hown (mvT hZ (hw _ (List.mem_of_getElem? (i := 16) rfl))) (mvT hZ (hw _ (List.mem_of_getElem? (i := 17) rfl))) (notFace_of_selects (args := #[]) (mvT hZ (hw _ (List.mem_of_getElem? (i := 19) rfl)))) (mvT hZ (hw _ (List.mem_of_getElem? (i := 19) rfl))) (mvT hZ (hw _ (List.mem_of_getElem? (i := 18) rfl))) (by decide) (backOf (W := 0) (own_mline l Z a0 hw [] b68 (own_pl c2 (own_pl c1 (own_pl c0 (1 : Int64) (0 : Int32)) (own_pf c0)) (own_pf c1)) T87.heap n0 Z89 Fw87_0) hZ (hw _ (List.mem_of_getElem? (i := 20) rfl)) (hw _ (List.mem_of_getElem? (i := 7) rfl)) (by decide) (by decide)) q91a q91c (g := (mkF m 166 #[.val (.int va), .val (.int vb), .val (.int vc), .val (.int vd), .val (.int c0), .val (.int c1), .val (.int c2), .val (.int c3), .val (.ref b68), .val (.int (1 : Int32)), .val (.long ((((1 : Int64) + (own_ends (0 : Int32) (32 : Int32) c0)) + (own_ends (1 : Int32) c0 c1)) + (own_ends (1 : Int32) c1 c2))), .second] [(.ref b68)])) rfl (by rw [hml]; rfl) (Steps.refl _) (argsL := []) (rest := []) (lenOf own_pd2 rfl) rfl (by show 2 * 0 + _ ≤ _; exact Nat.le_of_eq rfl) (hb hby at_166) (fun _ _ => ⟨rfl, e90, (by decide : 1 + 0 ≤ _), (by decide : 2 + 0 ≤ _)⟩)
  dsimp only [Pt.U, Pt.locs, Pt.cells, Pt.slots] at X91 l91 y91 z91 st91 hQ91
  subst l91 y91 z91
  obtain ⟨rfl, N91q, e91⟩ := hQ91
  have N91 := Fr.app N90 N91q
  refine OGo.on (fun t k => st91.trans k) ?_
  show OGo p e below s _ _ _ (T91.setTop (mkF m 169 #[.val (.int va), .val (.int vb), .val (.int vc), .val (.int vd), .val (.int c0), .val (.int c1), .val (.int c2), .val (.int c3), .val (.ref b68), .val (.int (1 : Int32)), .val (.long ((((1 : Int64) + (own_ends (0 : Int32) (32 : Int32) c0)) + (own_ends (1 : Int32) c0 c1)) + (own_ends (1 : Int32) c1 c2))), .second] [(.long (own_pl c2 (own_pl c1 (own_pl c0 (1 : Int64) (0 : Int32)) (own_pf c0)) (own_pf c1)))]))
  refine OGo.on (fun t k => XS.lload X91.here hx rfl (hb hby at_169) rfl k) ?_
  show OGo p e below s _ _ _ (T91.setTop (mkF m 171 #[.val (.int va), .val (.int vb), .val (.int vc), .val (.int vd), .val (.int c0), .val (.int c1), .val (.int c2), .val (.int c3), .val (.ref b68), .val (.int (1 : Int32)), .val (.long ((((1 : Int64) + (own_ends (0 : Int32) (32 : Int32) c0)) + (own_ends (1 : Int32) c0 c1)) + (own_ends (1 : Int32) c1 c2))), .second] [(.long ((((1 : Int64) + (own_ends (0 : Int32) (32 : Int32) c0)) + (own_ends (1 : Int32) c0 c1)) + (own_ends (1 : Int32) c1 c2))), (.long (own_pl c2 (own_pl c1 (own_pl c0 (1 : Int64) (0 : Int32)) (own_pf c0)) (own_pf c1)))]))
  refine OGo.on (fun t k => XS.lcmp X91.here hx rfl (hb hby at_171) rfl k) ?_
  show OGo p e below s _ _ _ (T91.setTop (mkF m 172 #[.val (.int va), .val (.int vb), .val (.int vc), .val (.int vd), .val (.int c0), .val (.int c1), .val (.int c2), .val (.int c3), .val (.ref b68), .val (.int (1 : Int32)), .val (.long ((((1 : Int64) + (own_ends (0 : Int32) (32 : Int32) c0)) + (own_ends (1 : Int32) c0 c1)) + (own_ends (1 : Int32) c1 c2))), .second] [(.int (lcmpW (own_pl c2 (own_pl c1 (own_pl c0 (1 : Int64) (0 : Int32)) (own_pf c0)) (own_pf c1)) ((((1 : Int64) + (own_ends (0 : Int32) (32 : Int32) c0)) + (own_ends (1 : Int32) c0 c1)) + (own_ends (1 : Int32) c1 c2))))]))
  refine OGo.on (fun t k => XS.ifNo X91.here hx rfl (hb hby at_172) rfl (lc_teq (own_s c2 c1 (own_s c1 c0 (own_s0 c0)))).2 k) ?_
  show OGo p e below s _ _ _ (T91.setTop (mkF m 175 #[.val (.int va), .val (.int vb), .val (.int vc), .val (.int vd), .val (.int c0), .val (.int c1), .val (.int c2), .val (.int c3), .val (.ref b68), .val (.int (1 : Int32)), .val (.long ((((1 : Int64) + (own_ends (0 : Int32) (32 : Int32) c0)) + (own_ends (1 : Int32) c0 c1)) + (own_ends (1 : Int32) c1 c2))), .second] []))
  refine OGo.on (fun t k => XS.iconst X91.here hx rfl (hb hby at_175) k) ?_
  show OGo p e below s _ _ _ (T91.setTop (mkF m 176 #[.val (.int va), .val (.int vb), .val (.int vc), .val (.int vd), .val (.int c0), .val (.int c1), .val (.int c2), .val (.int c3), .val (.ref b68), .val (.int (1 : Int32)), .val (.long ((((1 : Int64) + (own_ends (0 : Int32) (32 : Int32) c0)) + (own_ends (1 : Int32) c0 c1)) + (own_ends (1 : Int32) c1 c2))), .second] [(.int (1 : Int32))]))
  refine OGo.on (fun t k => XS.goto X91.here hx rfl (pc0 := 176) (pc' := 180) rfl (hb hby at_176) (by decide) (by decide) k) ?_
  show OGo p e below s _ _ _ (T91.setTop (mkF m 180 #[.val (.int va), .val (.int vb), .val (.int vc), .val (.int vd), .val (.int c0), .val (.int c1), .val (.int c2), .val (.int c3), .val (.ref b68), .val (.int (1 : Int32)), .val (.long ((((1 : Int64) + (own_ends (0 : Int32) (32 : Int32) c0)) + (own_ends (1 : Int32) c0 c1)) + (own_ends (1 : Int32) c1 c2))), .second] [(.int (1 : Int32))]))
  refine OGo.on (fun t k => XS.istore X91.here hx rfl (hb hby at_180) rfl (l' := #[.val (.int va), .val (.int vb), .val (.int vc), .val (.int vd), .val (.int c0), .val (.int c1), .val (.int c2), .val (.int c3), .val (.ref b68), .val (.int (1 : Int32)), .val (.long ((((1 : Int64) + (own_ends (0 : Int32) (32 : Int32) c0)) + (own_ends (1 : Int32) c0 c1)) + (own_ends (1 : Int32) c1 c2))), .second]) rfl k) ?_
  show OGo p e below s _ _ _ (T91.setTop (mkF m 182 #[.val (.int va), .val (.int vb), .val (.int vc), .val (.int vd), .val (.int c0), .val (.int c1), .val (.int c2), .val (.int c3), .val (.ref b68), .val (.int (1 : Int32)), .val (.long ((((1 : Int64) + (own_ends (0 : Int32) (32 : Int32) c0)) + (own_ends (1 : Int32) c0 c1)) + (own_ends (1 : Int32) c1 c2))), .second] []))
  refine OGo.on (fun t k => XS.aload X91.here hx rfl (hb hby at_182) rfl rfl k) ?_
  show OGo p e below s _ _ _ (T91.setTop (mkF m 184 #[.val (.int va), .val (.int vb), .val (.int vc), .val (.int vd), .val (.int c0), .val (.int c1), .val (.int c2), .val (.int c3), .val (.ref b68), .val (.int (1 : Int32)), .val (.long ((((1 : Int64) + (own_ends (0 : Int32) (32 : Int32) c0)) + (own_ends (1 : Int32) c0 c1)) + (own_ends (1 : Int32) c1 c2))), .second] [(.ref b68)]))
  refine OGo.on (fun t k => XS.iload X91.here hx rfl (hb hby at_184) rfl k) ?_
  show OGo p e below s _ _ _ (T91.setTop (mkF m 186 #[.val (.int va), .val (.int vb), .val (.int vc), .val (.int vd), .val (.int c0), .val (.int c1), .val (.int c2), .val (.int c3), .val (.ref b68), .val (.int (1 : Int32)), .val (.long ((((1 : Int64) + (own_ends (0 : Int32) (32 : Int32) c0)) + (own_ends (1 : Int32) c0 c1)) + (own_ends (1 : Int32) c1 c2))), .second] [(.int c3), (.ref b68)]))
  obtain ⟨cq92, kq92, q92a, q92b, q92c⟩ := isOf hZ e91 f88
  obtain ⟨_, _, ⟨T92, L92, k92, n92⟩, -, X92, ⟨Lc92, hQ92, l92, y92, z92⟩, st92⟩ := X91.virtualBack hx (y := (⟨"org/surnia/io/LineCounter", "pass", "(C)V"⟩ : MethodName)) (z := (⟨"org/surnia/io/LineCounter", "pass", "(C)V"⟩ : MethodName)) hown (mvT hZ (hw _ (List.mem_of_getElem? (i := 21) rfl))) (mvT hZ (hw _ (List.mem_of_getElem? (i := 22) rfl))) (notFace_of_selects (args := #[]) (mvT hZ (hw _ (List.mem_of_getElem? (i := 24) rfl)))) (mvT hZ (hw _ (List.mem_of_getElem? (i := 24) rfl))) (mvT hZ (hw _ (List.mem_of_getElem? (i := 23) rfl))) (by decide) (backOf (W := 0) (own_mpass l Z a0 hw [] b68 c3 (own_pl c2 (own_pl c1 (own_pl c0 (1 : Int64) (0 : Int32)) (own_pf c0)) (own_pf c1)) (own_pf c2) T87.heap n0 Z89 ge69 f88 Fw87_0 Fw87_1) hZ (hw _ (List.mem_of_getElem? (i := 25) rfl)) (hw _ (List.mem_of_getElem? (i := 7) rfl)) (by decide) (by decide)) q92a q92c (g := (mkF m 186 #[.val (.int va), .val (.int vb), .val (.int vc), .val (.int vd), .val (.int c0), .val (.int c1), .val (.int c2), .val (.int c3), .val (.ref b68), .val (.int (1 : Int32)), .val (.long ((((1 : Int64) + (own_ends (0 : Int32) (32 : Int32) c0)) + (own_ends (1 : Int32) c0 c1)) + (own_ends (1 : Int32) c1 c2))), .second] [(.int c3), (.ref b68)])) rfl (by rw [hml]; rfl) (Steps.refl _) (argsL := [(.int c3)]) (rest := []) (lenOf own_pd3 rfl) rfl (by show 2 * 0 + _ ≤ _; exact Nat.le_of_eq rfl) (hb hby at_186) (fun _ _ => ⟨rfl, e91, (by decide : 1 + 0 ≤ _), (by decide : 2 + 0 ≤ _)⟩)
  dsimp only [Pt.U, Pt.locs, Pt.cells, Pt.slots] at X92 l92 y92 z92 st92 hQ92
  subst l92 y92 z92
  obtain ⟨rfl, N92q, K92, Fw92_0', Fw92_1'⟩ := hQ92
  have N92 := Fr.app N91 N92q
  have Fw92_0 : Fld Z T92.heap b68 "org/surnia/io/LineCounter" "line" "J" (.long (own_pl c3 (own_pl c2 (own_pl c1 (own_pl c0 (1 : Int64) (0 : Int32)) (own_pf c0)) (own_pf c1)) (own_pf c2))) := Fw92_0'
  have Fw92_1 : Fld Z T92.heap b68 "org/surnia/io/LineCounter" "afterCarriageReturn" "Z" (.int (own_pf c3)) := Fw92_1'
  have f93 : Exa Z T92.heap b68 "org/surnia/io/LineCounter" := f88.keep K92
  have Z94 : n0 ≤ T92.heap.size := Nat.le_trans Z89 K92.1
  refine OGo.on (fun t k => st92.trans k) ?_
  show OGo p e below s _ _ _ (T92.setTop (mkF m 189 #[.val (.int va), .val (.int vb), .val (.int vc), .val (.int vd), .val (.int c0), .val (.int c1), .val (.int c2), .val (.int c3), .val (.ref b68), .val (.int (1 : Int32)), .val (.long ((((1 : Int64) + (own_ends (0 : Int32) (32 : Int32) c0)) + (own_ends (1 : Int32) c0 c1)) + (own_ends (1 : Int32) c1 c2))), .second] []))
  refine OGo.on (fun t k => XS.lload X92.here hx rfl (hb hby at_189) rfl k) ?_
  show OGo p e below s _ _ _ (T92.setTop (mkF m 191 #[.val (.int va), .val (.int vb), .val (.int vc), .val (.int vd), .val (.int c0), .val (.int c1), .val (.int c2), .val (.int c3), .val (.ref b68), .val (.int (1 : Int32)), .val (.long ((((1 : Int64) + (own_ends (0 : Int32) (32 : Int32) c0)) + (own_ends (1 : Int32) c0 c1)) + (own_ends (1 : Int32) c1 c2))), .second] [(.long ((((1 : Int64) + (own_ends (0 : Int32) (32 : Int32) c0)) + (own_ends (1 : Int32) c0 c1)) + (own_ends (1 : Int32) c1 c2)))]))
  refine OGo.on (fun t k => XS.iconst X92.here hx rfl (hb hby at_191) k) ?_
  show OGo p e below s _ _ _ (T92.setTop (mkF m 192 #[.val (.int va), .val (.int vb), .val (.int vc), .val (.int vd), .val (.int c0), .val (.int c1), .val (.int c2), .val (.int c3), .val (.ref b68), .val (.int (1 : Int32)), .val (.long ((((1 : Int64) + (own_ends (0 : Int32) (32 : Int32) c0)) + (own_ends (1 : Int32) c0 c1)) + (own_ends (1 : Int32) c1 c2))), .second] [(.int (1 : Int32)), (.long ((((1 : Int64) + (own_ends (0 : Int32) (32 : Int32) c0)) + (own_ends (1 : Int32) c0 c1)) + (own_ends (1 : Int32) c1 c2)))]))
  refine OGo.on (fun t k => XS.iload X92.here hx rfl (hb hby at_192) rfl k) ?_
  show OGo p e below s _ _ _ (T92.setTop (mkF m 194 #[.val (.int va), .val (.int vb), .val (.int vc), .val (.int vd), .val (.int c0), .val (.int c1), .val (.int c2), .val (.int c3), .val (.ref b68), .val (.int (1 : Int32)), .val (.long ((((1 : Int64) + (own_ends (0 : Int32) (32 : Int32) c0)) + (own_ends (1 : Int32) c0 c1)) + (own_ends (1 : Int32) c1 c2))), .second] [(.int c2), (.int (1 : Int32)), (.long ((((1 : Int64) + (own_ends (0 : Int32) (32 : Int32) c0)) + (own_ends (1 : Int32) c0 c1)) + (own_ends (1 : Int32) c1 c2)))]))
  refine OGo.on (fun t k => XS.iload X92.here hx rfl (hb hby at_194) rfl k) ?_
  show OGo p e below s _ _ _ (T92.setTop (mkF m 196 #[.val (.int va), .val (.int vb), .val (.int vc), .val (.int vd), .val (.int c0), .val (.int c1), .val (.int c2), .val (.int c3), .val (.ref b68), .val (.int (1 : Int32)), .val (.long ((((1 : Int64) + (own_ends (0 : Int32) (32 : Int32) c0)) + (own_ends (1 : Int32) c0 c1)) + (own_ends (1 : Int32) c1 c2))), .second] [(.int c3), (.int c2), (.int (1 : Int32)), (.long ((((1 : Int64) + (own_ends (0 : Int32) (32 : Int32) c0)) + (own_ends (1 : Int32) c0 c1)) + (own_ends (1 : Int32) c1 c2)))]))
  obtain ⟨_, _, ⟨T95, L95, k95, n95⟩, -, X95, ⟨Lc95, hQ95, l95, y95, z95⟩, st95⟩ := Jvm.LawKit.callS X92 hx (y := (⟨"org/surnia/io/LineCounterPassPinLaw", "ends", "(ZCC)J"⟩ : MethodName)) hown (mvT hZ (hw _ (List.mem_of_getElem? (i := 28) rfl))) (mvT hZ (hw _ (List.mem_of_getElem? (i := 29) rfl))) (mvT hZ (hw _ (List.mem_of_getElem? (i := 2) rfl))) (mvT hZ (hw _ (List.mem_of_getElem? (i := 30) rfl))) (by decide) (backOf (W := 2) (own_mends l Z a0 hw [] (1 : Int32) c2 c3 T92.heap n0 Z94) hZ (hw _ (List.mem_of_getElem? (i := 30) rfl)) (hw _ (List.mem_of_getElem? (i := 2) rfl)) (by decide) (by decide)) (g := (mkF m 196 #[.val (.int va), .val (.int vb), .val (.int vc), .val (.int vd), .val (.int c0), .val (.int c1), .val (.int c2), .val (.int c3), .val (.ref b68), .val (.int (1 : Int32)), .val (.long ((((1 : Int64) + (own_ends (0 : Int32) (32 : Int32) c0)) + (own_ends (1 : Int32) c0 c1)) + (own_ends (1 : Int32) c1 c2))), .second] [(.int c3), (.int c2), (.int (1 : Int32)), (.long ((((1 : Int64) + (own_ends (0 : Int32) (32 : Int32) c0)) + (own_ends (1 : Int32) c0 c1)) + (own_ends (1 : Int32) c1 c2)))])) rfl (by rw [hml]; rfl) (argsL := [(.int (1 : Int32)), (.int c2), (.int c3)]) (rest := [(.long ((((1 : Int64) + (own_ends (0 : Int32) (32 : Int32) c0)) + (own_ends (1 : Int32) c0 c1)) + (own_ends (1 : Int32) c1 c2)))]) (lenOf own_pd4 rfl) rfl (by show 2 * 0 + _ ≤ _; exact Nat.le_of_eq rfl) (hb hby at_196) (fun _ _ => ⟨rfl, rfl, (by decide : 1 + 0 ≤ _), (by decide : 2 + 0 ≤ _)⟩)
  dsimp only [Pt.U, Pt.locs, Pt.cells, Pt.slots] at X95 l95 y95 z95 st95 hQ95
  subst l95 y95 z95
  obtain ⟨rfl, N95q, e95⟩ := hQ95
  have N95 := Fr.app N92 N95q
  refine OGo.on st95 ?_
  show OGo p e below s _ _ _ (T95.setTop (mkF m 199 #[.val (.int va), .val (.int vb), .val (.int vc), .val (.int vd), .val (.int c0), .val (.int c1), .val (.int c2), .val (.int c3), .val (.ref b68), .val (.int (1 : Int32)), .val (.long ((((1 : Int64) + (own_ends (0 : Int32) (32 : Int32) c0)) + (own_ends (1 : Int32) c0 c1)) + (own_ends (1 : Int32) c1 c2))), .second] [(.long (own_ends (1 : Int32) c2 c3)), (.long ((((1 : Int64) + (own_ends (0 : Int32) (32 : Int32) c0)) + (own_ends (1 : Int32) c0 c1)) + (own_ends (1 : Int32) c1 c2)))]))
  refine OGo.on (fun t k => XS.ladd X95.here hx rfl (hb hby at_199) rfl k) ?_
  show OGo p e below s _ _ _ (T95.setTop (mkF m 200 #[.val (.int va), .val (.int vb), .val (.int vc), .val (.int vd), .val (.int c0), .val (.int c1), .val (.int c2), .val (.int c3), .val (.ref b68), .val (.int (1 : Int32)), .val (.long ((((1 : Int64) + (own_ends (0 : Int32) (32 : Int32) c0)) + (own_ends (1 : Int32) c0 c1)) + (own_ends (1 : Int32) c1 c2))), .second] [(.long (((((1 : Int64) + (own_ends (0 : Int32) (32 : Int32) c0)) + (own_ends (1 : Int32) c0 c1)) + (own_ends (1 : Int32) c1 c2)) + (own_ends (1 : Int32) c2 c3)))]))
  refine OGo.on (fun t k => XS.lstore X95.here hx rfl (hb hby at_200) rfl (l' := #[.val (.int va), .val (.int vb), .val (.int vc), .val (.int vd), .val (.int c0), .val (.int c1), .val (.int c2), .val (.int c3), .val (.ref b68), .val (.int (1 : Int32)), .val (.long (((((1 : Int64) + (own_ends (0 : Int32) (32 : Int32) c0)) + (own_ends (1 : Int32) c0 c1)) + (own_ends (1 : Int32) c1 c2)) + (own_ends (1 : Int32) c2 c3))), .second]) rfl k) ?_
  show OGo p e below s _ _ _ (T95.setTop (mkF m 202 #[.val (.int va), .val (.int vb), .val (.int vc), .val (.int vd), .val (.int c0), .val (.int c1), .val (.int c2), .val (.int c3), .val (.ref b68), .val (.int (1 : Int32)), .val (.long (((((1 : Int64) + (own_ends (0 : Int32) (32 : Int32) c0)) + (own_ends (1 : Int32) c0 c1)) + (own_ends (1 : Int32) c1 c2)) + (own_ends (1 : Int32) c2 c3))), .second] []))
  refine OGo.on (fun t k => XS.iload X95.here hx rfl (hb hby at_202) rfl k) ?_
  show OGo p e below s _ _ _ (T95.setTop (mkF m 204 #[.val (.int va), .val (.int vb), .val (.int vc), .val (.int vd), .val (.int c0), .val (.int c1), .val (.int c2), .val (.int c3), .val (.ref b68), .val (.int (1 : Int32)), .val (.long (((((1 : Int64) + (own_ends (0 : Int32) (32 : Int32) c0)) + (own_ends (1 : Int32) c0 c1)) + (own_ends (1 : Int32) c1 c2)) + (own_ends (1 : Int32) c2 c3))), .second] [(.int (1 : Int32))]))
  refine OGo.on (fun t k => XS.ifNo X95.here hx rfl (hb hby at_204) rfl ((if0 _ _).trans (feq (by decide)).1) k) ?_
  show OGo p e below s _ _ _ (T95.setTop (mkF m 207 #[.val (.int va), .val (.int vb), .val (.int vc), .val (.int vd), .val (.int c0), .val (.int c1), .val (.int c2), .val (.int c3), .val (.ref b68), .val (.int (1 : Int32)), .val (.long (((((1 : Int64) + (own_ends (0 : Int32) (32 : Int32) c0)) + (own_ends (1 : Int32) c0 c1)) + (own_ends (1 : Int32) c1 c2)) + (own_ends (1 : Int32) c2 c3))), .second] []))
  refine OGo.on (fun t k => XS.aload X95.here hx rfl (hb hby at_207) rfl rfl k) ?_
  show OGo p e below s _ _ _ (T95.setTop (mkF m 209 #[.val (.int va), .val (.int vb), .val (.int vc), .val (.int vd), .val (.int c0), .val (.int c1), .val (.int c2), .val (.int c3), .val (.ref b68), .val (.int (1 : Int32)), .val (.long (((((1 : Int64) + (own_ends (0 : Int32) (32 : Int32) c0)) + (own_ends (1 : Int32) c0 c1)) + (own_ends (1 : Int32) c1 c2)) + (own_ends (1 : Int32) c2 c3))), .second] [(.ref b68)]))
  obtain ⟨cq96, kq96, q96a, q96b, q96c⟩ := isOf hZ e95 f93
  obtain ⟨_, _, ⟨T96, L96, k96, n96⟩, -, X96, ⟨Lc96, hQ96, l96, y96, z96⟩, st96⟩ := X95.virtualBack hx (y := (⟨"org/surnia/io/LineCounter", "line", "()J"⟩ : MethodName)) (z := (⟨"org/surnia/io/LineCounter", "line", "()J"⟩ : MethodName)) hown (mvT hZ (hw _ (List.mem_of_getElem? (i := 16) rfl))) (mvT hZ (hw _ (List.mem_of_getElem? (i := 17) rfl))) (notFace_of_selects (args := #[]) (mvT hZ (hw _ (List.mem_of_getElem? (i := 19) rfl)))) (mvT hZ (hw _ (List.mem_of_getElem? (i := 19) rfl))) (mvT hZ (hw _ (List.mem_of_getElem? (i := 18) rfl))) (by decide) (backOf (W := 0) (own_mline l Z a0 hw [] b68 (own_pl c3 (own_pl c2 (own_pl c1 (own_pl c0 (1 : Int64) (0 : Int32)) (own_pf c0)) (own_pf c1)) (own_pf c2)) T92.heap n0 Z94 Fw92_0) hZ (hw _ (List.mem_of_getElem? (i := 20) rfl)) (hw _ (List.mem_of_getElem? (i := 7) rfl)) (by decide) (by decide)) q96a q96c (g := (mkF m 209 #[.val (.int va), .val (.int vb), .val (.int vc), .val (.int vd), .val (.int c0), .val (.int c1), .val (.int c2), .val (.int c3), .val (.ref b68), .val (.int (1 : Int32)), .val (.long (((((1 : Int64) + (own_ends (0 : Int32) (32 : Int32) c0)) + (own_ends (1 : Int32) c0 c1)) + (own_ends (1 : Int32) c1 c2)) + (own_ends (1 : Int32) c2 c3))), .second] [(.ref b68)])) rfl (by rw [hml]; rfl) (Steps.refl _) (argsL := []) (rest := []) (lenOf own_pd2 rfl) rfl (by show 2 * 0 + _ ≤ _; exact Nat.le_of_eq rfl) (hb hby at_209) (fun _ _ => ⟨rfl, e95, (by decide : 1 + 0 ≤ _), (by decide : 2 + 0 ≤ _)⟩)
  dsimp only [Pt.U, Pt.locs, Pt.cells, Pt.slots] at X96 l96 y96 z96 st96 hQ96
  subst l96 y96 z96
  obtain ⟨rfl, N96q, e96⟩ := hQ96
  have N96 := Fr.app N95 N96q
  refine OGo.on (fun t k => st96.trans k) ?_
  show OGo p e below s _ _ _ (T96.setTop (mkF m 212 #[.val (.int va), .val (.int vb), .val (.int vc), .val (.int vd), .val (.int c0), .val (.int c1), .val (.int c2), .val (.int c3), .val (.ref b68), .val (.int (1 : Int32)), .val (.long (((((1 : Int64) + (own_ends (0 : Int32) (32 : Int32) c0)) + (own_ends (1 : Int32) c0 c1)) + (own_ends (1 : Int32) c1 c2)) + (own_ends (1 : Int32) c2 c3))), .second] [(.long (own_pl c3 (own_pl c2 (own_pl c1 (own_pl c0 (1 : Int64) (0 : Int32)) (own_pf c0)) (own_pf c1)) (own_pf c2)))]))
  refine OGo.on (fun t k => XS.lload X96.here hx rfl (hb hby at_212) rfl k) ?_
  show OGo p e below s _ _ _ (T96.setTop (mkF m 214 #[.val (.int va), .val (.int vb), .val (.int vc), .val (.int vd), .val (.int c0), .val (.int c1), .val (.int c2), .val (.int c3), .val (.ref b68), .val (.int (1 : Int32)), .val (.long (((((1 : Int64) + (own_ends (0 : Int32) (32 : Int32) c0)) + (own_ends (1 : Int32) c0 c1)) + (own_ends (1 : Int32) c1 c2)) + (own_ends (1 : Int32) c2 c3))), .second] [(.long (((((1 : Int64) + (own_ends (0 : Int32) (32 : Int32) c0)) + (own_ends (1 : Int32) c0 c1)) + (own_ends (1 : Int32) c1 c2)) + (own_ends (1 : Int32) c2 c3))), (.long (own_pl c3 (own_pl c2 (own_pl c1 (own_pl c0 (1 : Int64) (0 : Int32)) (own_pf c0)) (own_pf c1)) (own_pf c2)))]))
  refine OGo.on (fun t k => XS.lcmp X96.here hx rfl (hb hby at_214) rfl k) ?_
  show OGo p e below s _ _ _ (T96.setTop (mkF m 215 #[.val (.int va), .val (.int vb), .val (.int vc), .val (.int vd), .val (.int c0), .val (.int c1), .val (.int c2), .val (.int c3), .val (.ref b68), .val (.int (1 : Int32)), .val (.long (((((1 : Int64) + (own_ends (0 : Int32) (32 : Int32) c0)) + (own_ends (1 : Int32) c0 c1)) + (own_ends (1 : Int32) c1 c2)) + (own_ends (1 : Int32) c2 c3))), .second] [(.int (lcmpW (own_pl c3 (own_pl c2 (own_pl c1 (own_pl c0 (1 : Int64) (0 : Int32)) (own_pf c0)) (own_pf c1)) (own_pf c2)) (((((1 : Int64) + (own_ends (0 : Int32) (32 : Int32) c0)) + (own_ends (1 : Int32) c0 c1)) + (own_ends (1 : Int32) c1 c2)) + (own_ends (1 : Int32) c2 c3))))]))
  refine OGo.on (fun t k => XS.ifNo X96.here hx rfl (hb hby at_215) rfl (lc_teq (own_s c3 c2 (own_s c2 c1 (own_s c1 c0 (own_s0 c0))))).2 k) ?_
  show OGo p e below s _ _ _ (T96.setTop (mkF m 218 #[.val (.int va), .val (.int vb), .val (.int vc), .val (.int vd), .val (.int c0), .val (.int c1), .val (.int c2), .val (.int c3), .val (.ref b68), .val (.int (1 : Int32)), .val (.long (((((1 : Int64) + (own_ends (0 : Int32) (32 : Int32) c0)) + (own_ends (1 : Int32) c0 c1)) + (own_ends (1 : Int32) c1 c2)) + (own_ends (1 : Int32) c2 c3))), .second] []))
  refine OGo.on (fun t k => XS.iconst X96.here hx rfl (hb hby at_218) k) ?_
  show OGo p e below s _ _ _ (T96.setTop (mkF m 219 #[.val (.int va), .val (.int vb), .val (.int vc), .val (.int vd), .val (.int c0), .val (.int c1), .val (.int c2), .val (.int c3), .val (.ref b68), .val (.int (1 : Int32)), .val (.long (((((1 : Int64) + (own_ends (0 : Int32) (32 : Int32) c0)) + (own_ends (1 : Int32) c0 c1)) + (own_ends (1 : Int32) c1 c2)) + (own_ends (1 : Int32) c2 c3))), .second] [(.int (1 : Int32))]))
  refine OGo.on (fun t k => XS.goto X96.here hx rfl (pc0 := 219) (pc' := 223) rfl (hb hby at_219) (by decide) (by decide) k) ?_
  show OGo p e below s _ _ _ (T96.setTop (mkF m 223 #[.val (.int va), .val (.int vb), .val (.int vc), .val (.int vd), .val (.int c0), .val (.int c1), .val (.int c2), .val (.int c3), .val (.ref b68), .val (.int (1 : Int32)), .val (.long (((((1 : Int64) + (own_ends (0 : Int32) (32 : Int32) c0)) + (own_ends (1 : Int32) c0 c1)) + (own_ends (1 : Int32) c1 c2)) + (own_ends (1 : Int32) c2 c3))), .second] [(.int (1 : Int32))]))
  refine OGo.on (fun t k => XS.istore X96.here hx rfl (hb hby at_223) rfl (l' := #[.val (.int va), .val (.int vb), .val (.int vc), .val (.int vd), .val (.int c0), .val (.int c1), .val (.int c2), .val (.int c3), .val (.ref b68), .val (.int (1 : Int32)), .val (.long (((((1 : Int64) + (own_ends (0 : Int32) (32 : Int32) c0)) + (own_ends (1 : Int32) c0 c1)) + (own_ends (1 : Int32) c1 c2)) + (own_ends (1 : Int32) c2 c3))), .second]) rfl k) ?_
  show OGo p e below s _ _ _ (T96.setTop (mkF m 225 #[.val (.int va), .val (.int vb), .val (.int vc), .val (.int vd), .val (.int c0), .val (.int c1), .val (.int c2), .val (.int c3), .val (.ref b68), .val (.int (1 : Int32)), .val (.long (((((1 : Int64) + (own_ends (0 : Int32) (32 : Int32) c0)) + (own_ends (1 : Int32) c0 c1)) + (own_ends (1 : Int32) c1 c2)) + (own_ends (1 : Int32) c2 c3))), .second] []))
  refine OGo.on (fun t k => XS.iload X96.here hx rfl (hb hby at_225) rfl k) ?_
  show OGo p e below s _ _ _ (T96.setTop (mkF m 227 #[.val (.int va), .val (.int vb), .val (.int vc), .val (.int vd), .val (.int c0), .val (.int c1), .val (.int c2), .val (.int c3), .val (.ref b68), .val (.int (1 : Int32)), .val (.long (((((1 : Int64) + (own_ends (0 : Int32) (32 : Int32) c0)) + (own_ends (1 : Int32) c0 c1)) + (own_ends (1 : Int32) c1 c2)) + (own_ends (1 : Int32) c2 c3))), .second] [(.int (1 : Int32))]))
  exact OGo.retN X96 hx (t := .boolean) hret hlk (by simp) (hb hby at_227) ⟨rfl, N96⟩ (by decide) (by decide)
set_option maxRecDepth 65536 in
set_option maxHeartbeats 40000000 in
theorem comes_1 {Post : Tables → Env → Array Value → State → Outcome → State → Prop} (hpost : ∀ tb e args s v u, (limb_1_1.after args s (.returned v) u = true ∧ limb_1_2.after args s (.returned v) u = true ∧ True) → FrameEnd s (.returned v) u (Jvm.fieldLocs frame_1_writes args s ++ Jvm.arrayLocs frame_1_arrays args s ++ Jvm.staticLocs frame_1_statics s) 16 128 → Post tb e args s (.returned v) u) :
    ArmFor flags0 classFile x code maxLocals ret World_1 tables_1 room_1 Calls_1 rest_1 Pre_1 Post := by
  intro l hfl _ _ p e ha hc hk s m args below hf hA hF happ hP
  obtain ⟨hcalls, hrest, hpre⟩ := hP
  obtain ⟨-, -, -, hnamed, -, -, -, hat⟩ := (Spec.applies_iff hf).mp happ
  obtain ⟨hg, hn⟩ := and_e (Cond.before_iff.mp (show (Jvm.Cond.and given_1 narrow_1).before args s = true from hpre))
  obtain ⟨gg97, gg98⟩ := and_e hg
  obtain ⟨gg99, gg100⟩ := and_e gg98
  obtain ⟨gg101, gg102⟩ := and_e gg100
  obtain ⟨gg103, gg104⟩ := and_e gg102
  obtain ⟨w0, w1, w2, w3, rfl⟩ : ∃ w0 w1 w2 w3 : Value, args = #[w0, w1, w2, w3] := by
    have hs : args.size = 4 := by simpa [Cond.value, given_1] using gg97
    obtain ⟨L⟩ := args
    match L, hs with
    | [w0, w1, w2, w3], _ => exact ⟨w0, w1, w2, w3, rfl⟩
  have hw := fun d (hd : d ∈ tables_1) => atoms_spec (ws := Jvm.Cond.code x code maxLocals ret :: tables_1) hat d (List.mem_cons_of_mem _ hd)
  obtain ⟨i0, ei0⟩ := is_v gg99
  obtain rfl : w0 = (.int i0) := Option.some.inj ei0
  obtain ⟨i1, ei1⟩ := is_v gg101
  obtain rfl : w1 = (.int i1) := Option.some.inj ei1
  obtain ⟨i2, ei2⟩ := is_v gg103
  obtain rfl : w2 = (.int i2) := Option.some.inj ei2
  obtain ⟨i3, ei3⟩ := is_v gg104
  obtain rfl : w3 = (.int i3) := Option.some.inj ei3
  obtain ⟨n, o, h1, h2, h3, _, L, rfl, ⟨rfl, N⟩, hq⟩ := own_law l s _ hw tables_1 i0 i1 i2 i3 s.heap s.heap.size (Nat.le_refl _)  p e ha hc hk s m _ below hf ((Spec.applies_iff_loose hf).mp happ).1 ⟨rfl, State.Warmed39.refl s, rfl⟩ trivial
  refine ⟨n, _, h1, h2, h3, hpost _ _ _ _ _ _ ⟨Cond.after_iff.mpr rfl, Cond.after_iff.mpr (eq_i res_at (Term.int_eval (1)) rfl), trivial⟩ ⟨hq.1, hq.2.1, (hq.2.2.sift fun y hy => Or.inr (N y hy)).mono (by decide) (by decide)⟩⟩
theorem main_1_1 : Claimed_1_1 := comes_1 fun _ _ _ _ _ _ h hF => ⟨h.1, hF⟩
theorem main_1_2 : Claimed_1_2 := comes_1 fun _ _ _ _ _ _ h hF => ⟨h.2.1, hF⟩
end Jvm.Pilot.@@N@@
namespace Jvm.Pilot.@@N@@
open Jvm Jvm.ClassFile Sem Op Lib Jvm.Free Jvm.Stand Jvm.Pilot.@@N@@.Jvm.D
/-! MADE BY PROGRAM (witnessworld.py) out of the Statement's table words and the real class files: 9 classes; the members and pool entries that the words name. The judged class is class 1, her method 3. -/
namespace start1
open Jvm.ClassFile
def u (s : String) : CpInfo := .utf8 (stringToUtf16 s)
/-- a pool by its gaps: so many unusable entries, then the entry; so many at the end -/
def gap : Nat → List CpInfo → List CpInfo
  | 0, r => r
  | n + 1, r => .unusable :: gap n r
def poolList (es : List (Nat × CpInfo)) (last : Nat) : List CpInfo := es.foldr (fun e r => gap e.1 (e.2 :: r)) (gap last [])
def pool (es : List (Nat × CpInfo)) (last : Nat) : Array CpInfo := ⟨poolList es last⟩
def fileOf (pool : Array CpInfo) (this : Nat) (attrs : Array Attribute := #[]) (ms : Array MethodInfo := #[]) (fl : Nat := 33) (sup : Nat := 0) (ifs : Array Nat := #[]) (fds : Array FieldInfo := #[]) : ClassFile where
  minorVersion := 0
  majorVersion := 65
  constantPool := pool
  accessFlags := fl
  thisClass := this
  superClass := sup
  interfaces := ifs
  fields := fds
  methods := ms
  attributes := attrs
def plain (name : String) (sup : Option ClassId) : Class where
  name := name
  kind := .ordinary
  loader := none
  accessFlags := 33
  super := sup
  interfaces := #[]
  cf := none
  fields := #[]
  methods := #[]
  instanceTypes := #[]
  staticTypes := #[]
  resolved := #[]
  callSites := []
  init := .initialized
  statics := none
  mirror := none

def pool0 : Array CpInfo := pool [(5, u "<init>"), (0, u "()V"), (1, .class_ 10), (1, u "java/lang/Object")] 113

def k0c0 : Code := { maxStack := 0, maxLocals := 1, code := object_method_1_code, exceptionTable := #[], attributes := #[] }
def k0m0 : Method := { name := "<init>", desc := "()V", sig := { parameters := [], returnType := none }, accessFlags := 1, code := some k0c0 }
/-- java/lang/Object -/
def k0 : Class := { plain "java/lang/Object" none with
  accessFlags := 33
  interfaces := #[]
  cf := some (fileOf pool0 8 #[] #[{ accessFlags := 1, nameIndex := 5, descriptorIndex := 6, attributes := #[] }] 33 0 #[] #[])
  fields := #[]
  methods := #[k0m0]
  instanceTypes := #[]
  staticTypes := #[]
  resolved := Array.replicate 124 none
  statics := none }

def pool1 : Array CpInfo := pool [(2, .class_ 4), (0, .nameAndType 5 6), (0, u "java/lang/Object"), (0, u "<init>"), (0, u "()V"), (0, .integer 65535), (0, .methodref 9 10), (0, .class_ 11), (0, .nameAndType 12 13), (0, u "org/surnia/io/LineCounterPassPinLaw"), (0, u "pick"), (0, u "(I)C"), (0, .class_ 15), (0, u "org/surnia/io/LineCounter"), (0, .methodref 14 3), (0, .methodref 14 18), (0, .nameAndType 19 20), (0, u "line"), (0, u "()J"), (0, .methodref 14 22), (0, .nameAndType 23 24), (0, u "pass"), (0, u "(C)V"), (0, .methodref 9 26), (0, .nameAndType 27 28), (0, u "ends"), (0, u "(ZCC)J"), (3, u "law"), (0, u "(IIII)Z")] 2

def k1m0 : Method := { name := "<init>", desc := "()V", sig := { parameters := [], returnType := none }, accessFlags := 1, code := none }
def k1c1 : Code := { maxStack := 2, maxLocals := 2, code := method_2_code, exceptionTable := #[], attributes := #[] }
def k1m1 : Method := { name := "pick", desc := "(I)C", sig := { parameters := [.int], returnType := some .char }, accessFlags := 10, code := some k1c1 }
def k1c2 : Code := { maxStack := 2, maxLocals := 3, code := method_3_code, exceptionTable := #[], attributes := #[] }
def k1m2 : Method := { name := "ends", desc := "(ZCC)J", sig := { parameters := [.boolean, .char, .char], returnType := some .long }, accessFlags := 10, code := some k1c2 }
def k1c3 : Code := { maxStack := 5, maxLocals := 12, code := code, exceptionTable := #[], attributes := #[] }
def k1m3 : Method := { name := "law", desc := "(IIII)Z", sig := { parameters := [.int, .int, .int, .int], returnType := some .boolean }, accessFlags := 9, code := some k1c3 }
/-- org/surnia/io/LineCounterPassPinLaw -/
def k1 : Class := { plain "org/surnia/io/LineCounterPassPinLaw" (some 0) with
  accessFlags := 49
  interfaces := #[]
  cf := some (fileOf pool1 9 #[] #[{ accessFlags := 1, nameIndex := 5, descriptorIndex := 6, attributes := #[] }, { accessFlags := 10, nameIndex := 12, descriptorIndex := 13, attributes := #[] }, { accessFlags := 10, nameIndex := 27, descriptorIndex := 28, attributes := #[] }, { accessFlags := 9, nameIndex := 32, descriptorIndex := 33, attributes := #[] }] 49 2 #[] #[])
  fields := #[]
  methods := #[k1m0, k1m1, k1m2, k1m3]
  instanceTypes := #[]
  staticTypes := #[]
  resolved := Array.replicate 36 none
  statics := none }

def pool2 : Array CpInfo := pool [(1, .methodref 2 3), (0, .class_ 4), (0, .nameAndType 5 6), (0, u "java/lang/Object"), (0, u "<init>"), (0, u "()V"), (0, .fieldref 8 9), (0, .class_ 10), (0, .nameAndType 11 12), (0, u "org/surnia/io/LineCounter"), (0, u "line"), (0, u "J"), (0, .fieldref 8 14), (0, .nameAndType 15 16), (0, u "afterCarriageReturn"), (0, u "Z"), (2, u "()J"), (0, u "pass"), (0, u "(C)V")] 3

def k2c0 : Code := { maxStack := 3, maxLocals := 1, code := prog_28_method_1_code, exceptionTable := #[], attributes := #[] }
def k2m0 : Method := { name := "<init>", desc := "()V", sig := { parameters := [], returnType := none }, accessFlags := 0, code := some k2c0 }
def k2c1 : Code := { maxStack := 2, maxLocals := 1, code := prog_28_method_2_code, exceptionTable := #[], attributes := #[] }
def k2m1 : Method := { name := "line", desc := "()J", sig := { parameters := [], returnType := some .long }, accessFlags := 0, code := some k2c1 }
def k2c2 : Code := { maxStack := 5, maxLocals := 2, code := prog_28_method_3_code, exceptionTable := #[], attributes := #[] }
def k2m2 : Method := { name := "pass", desc := "(C)V", sig := { parameters := [.char], returnType := none }, accessFlags := 0, code := some k2c2 }
/-- org/surnia/io/LineCounter -/
def k2 : Class := { plain "org/surnia/io/LineCounter" (some 0) with
  accessFlags := 48
  interfaces := #[]
  cf := some (fileOf pool2 8 #[] #[{ accessFlags := 0, nameIndex := 5, descriptorIndex := 6, attributes := #[] }, { accessFlags := 0, nameIndex := 11, descriptorIndex := 19, attributes := #[] }, { accessFlags := 0, nameIndex := 20, descriptorIndex := 21, attributes := #[] }] 48 2 #[] #[{ accessFlags := 2, nameIndex := 11, descriptorIndex := 12, attributes := #[] }, { accessFlags := 2, nameIndex := 15, descriptorIndex := 16, attributes := #[] }])
  fields := #[{ name := "line", type := .long, accessFlags := 2, slot := 0, constantValue := 0 }, { name := "afterCarriageReturn", type := .boolean, accessFlags := 2, slot := 1, constantValue := 0 }]
  methods := #[k2m0, k2m1, k2m2]
  instanceTypes := #[.long, .boolean]
  staticTypes := #[]
  resolved := Array.replicate 25 none
  statics := none }

def pool3 : Array CpInfo := pool [(1, u "java/lang/Cloneable"), (0, .class_ 1), (0, u "java/lang/Object"), (0, .class_ 3)] 3

/-- java/lang/Cloneable -/
def k3 : Class := { plain "java/lang/Cloneable" (some 0) with
  accessFlags := 1537
  interfaces := #[]
  cf := some (fileOf pool3 2 #[] #[] 1537 4 #[] #[])
  fields := #[]
  methods := #[]
  instanceTypes := #[]
  staticTypes := #[]
  resolved := Array.replicate 8 none
  statics := none }

def pool4 : Array CpInfo := pool [(1, u "java/io/Serializable"), (0, .class_ 1), (0, u "java/lang/Object"), (0, .class_ 3)] 3

/-- java/io/Serializable -/
def k4 : Class := { plain "java/io/Serializable" (some 0) with
  accessFlags := 1537
  interfaces := #[]
  cf := some (fileOf pool4 2 #[] #[] 1537 4 #[] #[])
  fields := #[]
  methods := #[]
  instanceTypes := #[]
  staticTypes := #[]
  resolved := Array.replicate 8 none
  statics := none }

/-- the primitive byte -/
def k5 : Class := { plain "byte" none with kind := .primitive 'B', accessFlags := 0x411 }
/-- [B -/
def k6 : Class := { plain "[B" (some 0) with kind := .array 5 .byte, interfaces := #[3, 4], accessFlags := 1041 }

/-- the primitive int -/
def k7 : Class := { plain "int" none with kind := .primitive 'I', accessFlags := 0x411 }
/-- [I -/
def k8 : Class := { plain "[I" (some 0) with kind := .array 7 .int, interfaces := #[3, 4], accessFlags := 1041 }

def heap : Heap := #[]
def classes : Array Class := #[k0, k1, k2, k3, k4, k5, k6, k7, k8]
def interned : List (Array UInt16 × Addr) := []
def slotsUsed : Nat := 0
def theMethod : MethodId := ⟨1, 3⟩
def args0 : Array Value := #[.int 5, .int 3, .int 0, .int 1]
def aboutOver (below : List Frame) : State where
  vm := { classes := classes, interned := interned.toArray }
  heap := heap
  slotsUsed := slotsUsed
  threads := #[{ frames := .invoking theMethod args0 :: below }]
def below0 : List Frame := [.native { method := ⟨0, 0⟩, args := #[] }]
def about1 : State := aboutOver below0
def p0 : Program := .bare "" "" ""
def e0 : Env := launch0.env 0 0 0
theorem w_frames : about1.frames = Frame.invoking theMethod args0 :: below0 := rfl
set_option maxRecDepth 65536 in
theorem w_args : argsFit about1.vm theMethod args0 = true := by decide +kernel
set_option maxRecDepth 65536 in
theorem w_heap : heapFits about1 = true := by decide +kernel
set_option maxRecDepth 65536 in
theorem w_runnable : about1.curStatus? = some .runnable := by decide +kernel
set_option maxRecDepth 65536 in
theorem w_alone : about1.alone = true := by decide +kernel
set_option maxRecDepth 65536 in
theorem w_named : about1.methodNamed? x = some theMethod := by decide +kernel
set_option maxRecDepth 65536 in
theorem w_hears : about1.hears theMethod below0 = true := by decide +kernel
set_option maxRecDepth 65536 in
theorem w_ripe : about1.ripe theMethod args0 below0 = true := by decide +kernel
theorem w_running : about1.status = .running := rfl
set_option maxRecDepth 65536 in
theorem w_room : about1.hasRoom e0.platform room_1 = true :=
  launch0.hasRoom_least _ room_1 (by decide +kernel) (by decide +kernel) (by decide +kernel) (by decide +kernel) (by decide +kernel) (by decide +kernel)
theorem allAtoms_all (ts : List Jvm.Cond) (a : Array Jvm.Value) (st : Jvm.State) : (allAtoms ts).before a st = ts.all (fun c => c.before a st) := by
  induction ts with
  | nil => rfl
  | cons c t ih =>
    show (Jvm.Cond.and c (allAtoms t)).before a st = _
    rw [Jvm.Cond.before_and, ih, List.all_cons]
def words1 : List Jvm.Cond := Jvm.Cond.code x code maxLocals ret :: tables_1
/-- a 'code' word, met by the world's own term for the bytes: nothing is compared byte by byte -/
theorem code_word {y : MethodName} {bytes : ByteArray} {mx : Nat} {rt : Option FieldType} {a : Array Value} {s : State} {m : MethodId} {meth : Method} {c : Code} (h1 : s.methodNamed? y = some m) (h2 : s.vm.method? m = some meth) (h3 : meth.code = some c) (h4 : c.code = bytes)
    (h5 : (c.maxLocals == mx && c.exceptionTable.isEmpty && decide (c.maxStack ≤ mostOperands) && decide (meth.sig.returnType = rt) && !meth.locks && decide (parseMethodDescriptor y.desc = some meth.sig)) = true) : (Jvm.Cond.code y bytes mx rt).before a s = true := by
  simp only [Bool.and_eq_true, beq_iff_eq, Bool.not_eq_true', decide_eq_true_eq] at h5
  obtain ⟨⟨⟨⟨⟨g1, g2⟩, g3⟩, g4⟩, g5⟩, g6⟩ := h5
  simp [Cond.before, Cond.holds, Cond.value, h1, h2, h3, h4, g1, g2, g3, g4, g5, g6]
def isCode : Jvm.Cond → Bool
  | .code _ _ _ _ => true
  | _ => false
theorem all_split {L : List Jvm.Cond} {P : Jvm.Cond → Bool} (h1 : L.all (fun c => isCode c || P c) = true) (h2 : ∀ c ∈ L.filter isCode, P c = true) : L.all P = true := by
  refine List.all_eq_true.mpr fun c hc => ?_
  have h := List.all_eq_true.mp h1 c hc
  rcases Bool.eq_false_or_eq_true (isCode c) with hi | hi
  · exact h2 c (List.mem_filter.mpr ⟨hc, hi⟩)
  · simpa [hi] using h
set_option maxRecDepth 65536 in
theorem w_c0 : (Jvm.Cond.code x code maxLocals ret).before args0 about1 = true := code_word (m := ⟨1, 3⟩) (meth := k1m3) (c := k1c3) (by decide +kernel) rfl rfl rfl (by decide +kernel)
set_option maxRecDepth 65536 in
theorem w_c1 : (Jvm.Cond.code ({ cls := "org/surnia/io/LineCounterPassPinLaw", name := "pick", desc := "(I)C" } : Jvm.MethodName) method_2_code (2 : Nat) (Option.some Jvm.ClassFile.FieldType.char)).before args0 about1 = true := code_word (m := ⟨1, 1⟩) (meth := k1m1) (c := k1c1) (by decide +kernel) rfl rfl rfl (by decide +kernel)
set_option maxRecDepth 65536 in
theorem w_c2 : (Jvm.Cond.code ({ cls := "org/surnia/io/LineCounter", name := "<init>", desc := "()V" } : Jvm.MethodName) prog_28_method_1_code (1 : Nat) (Option.none : Option Jvm.ClassFile.FieldType)).before args0 about1 = true := code_word (m := ⟨2, 0⟩) (meth := k2m0) (c := k2c0) (by decide +kernel) rfl rfl rfl (by decide +kernel)
set_option maxRecDepth 65536 in
theorem w_c3 : (Jvm.Cond.code ({ cls := "java/lang/Object", name := "<init>", desc := "()V" } : Jvm.MethodName) object_method_1_code (1 : Nat) (Option.none : Option Jvm.ClassFile.FieldType)).before args0 about1 = true := code_word (m := ⟨0, 0⟩) (meth := k0m0) (c := k0c0) (by decide +kernel) rfl rfl rfl (by decide +kernel)
set_option maxRecDepth 65536 in
theorem w_c4 : (Jvm.Cond.code ({ cls := "org/surnia/io/LineCounter", name := "line", desc := "()J" } : Jvm.MethodName) prog_28_method_2_code (1 : Nat) (Option.some Jvm.ClassFile.FieldType.long)).before args0 about1 = true := code_word (m := ⟨2, 1⟩) (meth := k2m1) (c := k2c1) (by decide +kernel) rfl rfl rfl (by decide +kernel)
set_option maxRecDepth 65536 in
theorem w_c5 : (Jvm.Cond.code ({ cls := "org/surnia/io/LineCounter", name := "pass", desc := "(C)V" } : Jvm.MethodName) prog_28_method_3_code (2 : Nat) (Option.none : Option Jvm.ClassFile.FieldType)).before args0 about1 = true := code_word (m := ⟨2, 2⟩) (meth := k2m2) (c := k2c2) (by decide +kernel) rfl rfl rfl (by decide +kernel)
set_option maxRecDepth 65536 in
theorem w_c6 : (Jvm.Cond.code ({ cls := "org/surnia/io/LineCounterPassPinLaw", name := "ends", desc := "(ZCC)J" } : Jvm.MethodName) method_3_code (3 : Nat) (Option.some Jvm.ClassFile.FieldType.long)).before args0 about1 = true := code_word (m := ⟨1, 2⟩) (meth := k1m2) (c := k1c2) (by decide +kernel) rfl rfl rfl (by decide +kernel)
def codes1 : List Jvm.Cond := [Jvm.Cond.code x code maxLocals ret, Jvm.Cond.code ({ cls := "org/surnia/io/LineCounterPassPinLaw", name := "pick", desc := "(I)C" } : Jvm.MethodName) method_2_code (2 : Nat) (Option.some Jvm.ClassFile.FieldType.char), Jvm.Cond.code ({ cls := "org/surnia/io/LineCounter", name := "<init>", desc := "()V" } : Jvm.MethodName) prog_28_method_1_code (1 : Nat) (Option.none : Option Jvm.ClassFile.FieldType), Jvm.Cond.code ({ cls := "java/lang/Object", name := "<init>", desc := "()V" } : Jvm.MethodName) object_method_1_code (1 : Nat) (Option.none : Option Jvm.ClassFile.FieldType), Jvm.Cond.code ({ cls := "org/surnia/io/LineCounter", name := "line", desc := "()J" } : Jvm.MethodName) prog_28_method_2_code (1 : Nat) (Option.some Jvm.ClassFile.FieldType.long), Jvm.Cond.code ({ cls := "org/surnia/io/LineCounter", name := "pass", desc := "(C)V" } : Jvm.MethodName) prog_28_method_3_code (2 : Nat) (Option.none : Option Jvm.ClassFile.FieldType), Jvm.Cond.code ({ cls := "org/surnia/io/LineCounterPassPinLaw", name := "ends", desc := "(ZCC)J" } : Jvm.MethodName) method_3_code (3 : Nat) (Option.some Jvm.ClassFile.FieldType.long)]
set_option maxRecDepth 65536 in
theorem codes_eq : words1.filter isCode = codes1 := rfl
theorem w_codes : ∀ c ∈ words1.filter isCode, c.before args0 about1 = true := by
  rw [codes_eq]
  intro c hc
  simp only [codes1, List.mem_cons, List.not_mem_nil, or_false] at hc
  rcases hc with rfl | rfl | rfl | rfl | rfl | rfl | rfl
  · exact w_c0
  · exact w_c1
  · exact w_c2
  · exact w_c3
  · exact w_c4
  · exact w_c5
  · exact w_c6
set_option maxRecDepth 65536 in
theorem w_t1 : (words1.take 24).all (fun c => isCode c || c.before args0 about1) = true := by decide +kernel
set_option maxRecDepth 65536 in
theorem w_t2 : (words1.drop 24).all (fun c => isCode c || c.before args0 about1) = true := by decide +kernel
theorem w_tables : (allAtoms (Jvm.Cond.code x code maxLocals ret :: tables_1)).before args0 about1 = true := by
  rw [allAtoms_all]
  show words1.all (fun c => c.before args0 about1) = true
  refine all_split ?_ w_codes
  rw [← List.take_append_drop 24 words1, List.all_append, w_t1, w_t2]
  rfl
set_option maxRecDepth 65536 in
theorem w_case : (Jvm.Cond.and given_1 narrow_1).before args0 about1 = true := by decide +kernel
theorem w_applies : (headSpec (Jvm.Cond.code x code maxLocals ret :: tables_1) room_1).applies x e0.platform about1 = true :=
  (Spec.applies_iff w_frames).mpr ⟨w_running, w_runnable, w_alone, w_named, w_hears, w_ripe, w_room, w_tables⟩
theorem atStart : AtStart classFile x code maxLocals ret World_1 tables_1 room_1 Calls_1 rest_1 Pre_1 launch0 p0 e0 about1 theMethod args0 below0 :=
  ⟨lists_1, trivial, launch0.admits_env _ _ _, launch0.least_env, fairChoices_fair.cas, fairChoices_fair.clock, w_frames, w_args, w_heap, w_applies, trivial, trivial, w_case⟩
end start1
theorem witness_1 : WitnessClaimed_1 := ⟨start1.p0, start1.e0, start1.about1, start1.theMethod, start1.args0, start1.below0, start1.atStart⟩
end Jvm.Pilot.@@N@@
