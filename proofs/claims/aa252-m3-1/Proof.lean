import JvmDerived
import JvmDerived.Pilot.@@N@@Statement
import JvmDerived.Pilot.@@N@@Code
set_option linter.unusedVariables false
set_option linter.unusedSimpArgs false
@@BLOCK:NumsL.lean.txt@@
namespace Jvm.RoadKit
open Sem ClassFile Op Lib Jvm.Stand Jvm.Free Jvm.LawKit
section Own
variable {p : Program} {l : Launch} {e : Env} {R : Room} {s : State} {m : MethodId} {args : Array Value} {below : List Frame} {meth : Method} {c : Code} {T : State} {locs : List Loc} {cells slots : Nat} {Z : State} {h h' : Heap} {Q : Option Value → Heap → List Loc → Prop} {kc ks : Nat}
/-- from the state S the run comes to an end of which Q holds -/
def OGo (p : Program) (e : Env) (below : List Frame) (s : State) (Q : Option Value → Heap → List Loc → Prop) (kc ks : Nat) (S : State) : Prop :=
  ∃ s₂ o, Steps p.tables e below S s₂ ∧ s₂.status = .running ∧ Ended s₂ below o ∧ ∃ v L, o = .returned v ∧ Q v s₂.heap L ∧ FrameEnd s o s₂ L kc ks
theorem OGo.on {C N : State} (st : ∀ t, Steps p.tables e below N t → Steps p.tables e below C t) (h : OGo p e below s Q kc ks N) : OGo p e below s Q kc ks C := by
  obtain ⟨s₂, o, h1, h2⟩ := h
  exact ⟨s₂, o, st _ h1, h2⟩
theorem OGo.fin (X : Stand p l e R s m args below meth c T locs cells slots) {v : Option Value} (hv : meth.sig.returnType = none → v = none) (hlocks : meth.locks = false) {C : State}
    (st : ∀ fs, (∀ (f : JFrame) (acts : List Action), f.method = m → f.locked = none → f.entered = [] → (doReturn e (T.setTop f) acts v).1 = T.setFrames fs) → Steps p.tables e below C (T.setFrames fs)) (hq : Q v T.heap locs) (hc : cells ≤ kc) (hs : slots ≤ ks) : OGo p e below s Q kc ks C := by
  obtain ⟨fs, hr, hrun, hended, hW, hsame⟩ := X.leave hv hlocks
  exact ⟨_, _, st fs hr, hrun, hended, v, locs, rfl, hq, ⟨_, rfl⟩, hW, hsame.mono hc hs⟩
theorem OGo.retN (X : Stand p l e R s m args below meth c T locs cells slots) (hx : p.tables.exec = Jvm.exec) {pc : Nat} {Ls : Array Slot} {z : Int32} {t : FieldType} {rest : List Value} (hret : meth.sig.returnType = some t) (hlocks : meth.locks = false) (ht : t = .boolean ∨ t = .byte ∨ t = .char ∨ t = .short)
    (hd : decode c.code pc = .ok (.ireturn, 1)) (hq : Q (some (.int (nar t z))) T.heap locs) (hc : cells ≤ kc) (hs : slots ≤ ks) : OGo p e below s Q kc ks (T.setTop (mkF m pc Ls (.int z :: rest))) :=
  OGo.fin X (fun h => by rw [hret] at h; cases h) hlocks (fun fs hr => Jvm.RoadKit.retN X hx hret ht hd hr) hq hc hs
theorem OGo.retI (X : Stand p l e R s m args below meth c T locs cells slots) (hx : p.tables.exec = Jvm.exec) {pc : Nat} {Ls : Array Slot} {z : Int32} {rest : List Value} (hret : meth.sig.returnType = some .int) (hlocks : meth.locks = false)
    (hd : decode c.code pc = .ok (.ireturn, 1)) (hq : Q (some (.int z)) T.heap locs) (hc : cells ≤ kc) (hs : slots ≤ ks) : OGo p e below s Q kc ks (T.setTop (mkF m pc Ls (.int z :: rest))) :=
  OGo.fin X (fun h => by rw [hret] at h; cases h) hlocks (fun fs hr => retOut X hx hret rfl (Or.inl ⟨rfl, Or.inl rfl, _, rfl⟩) hd hr) hq hc hs
theorem OGo.retJ (X : Stand p l e R s m args below meth c T locs cells slots) (hx : p.tables.exec = Jvm.exec) {pc : Nat} {Ls : Array Slot} {z : Int64} {rest : List Value} (hret : meth.sig.returnType = some .long) (hlocks : meth.locks = false)
    (hd : decode c.code pc = .ok (.lreturn, 1)) (hq : Q (some (.long z)) T.heap locs) (hc : cells ≤ kc) (hs : slots ≤ ks) : OGo p e below s Q kc ks (T.setTop (mkF m pc Ls (.long z :: rest))) :=
  OGo.fin X (fun h => by rw [hret] at h; cases h) hlocks (fun fs hr => retOut X hx hret rfl (Or.inr (Or.inl ⟨rfl, rfl, _, rfl⟩)) hd hr) hq hc hs
theorem OGo.retA (X : Stand p l e R s m args below meth c T locs cells slots) (hx : p.tables.exec = Jvm.exec) {pc : Nat} {Ls : Array Slot} {a : Addr} {t : FieldType} {rest : List Value} (hret : meth.sig.returnType = some t) (ht : t.isReference = true) (hn : narrow t (.ref a) = .ref a) (hlocks : meth.locks = false)
    (hd : decode c.code pc = .ok (.areturn, 1)) (hq : Q (some (.ref a)) T.heap locs) (hc : cells ≤ kc) (hs : slots ≤ ks) : OGo p e below s Q kc ks (T.setTop (mkF m pc Ls (.ref a :: rest))) :=
  OGo.fin X (fun h => by rw [hret] at h; cases h) hlocks (fun fs hr => retOut X hx hret hn (Or.inr (Or.inr (Or.inr (Or.inr ⟨rfl, ht, rfl⟩)))) hd hr) hq hc hs
theorem OGo.ret0 (X : Stand p l e R s m args below meth c T locs cells slots) (hx : p.tables.exec = Jvm.exec) {pc : Nat} {Ls : Array Slot} (hret : meth.sig.returnType = none) (hlocks : meth.locks = false)
    (hd : decode c.code pc = .ok (.return_, 1)) (hq : Q none T.heap locs) (hc : cells ≤ kc) (hs : slots ≤ ks) : OGo p e below s Q kc ks (T.setTop (mkF m pc Ls [])) :=
  OGo.fin X (fun _ => rfl) hlocks (fun fs hr => X.returnOut hx hret hd hr) hq hc hs
/-- what a body that writes nothing leaves -/
def OPure (n0 : Nat) (h0 : Heap) (r : Option Value) (v : Option Value) (h : Heap) (L : List Loc) : Prop := v = r ∧ Fr n0 L ∧ h = h0
theorem opI {n0 : Nat} {h0 : Heap} {x y : Int32} {L : List Loc} (q : x = y) (N : Fr n0 L) (E : h = h0) : OPure n0 h0 (some (.int y)) (some (.int x)) h L := ⟨by rw [q], N, E⟩
theorem opJ {n0 : Nat} {h0 : Heap} {x y : Int64} {L : List Loc} (q : x = y) (N : Fr n0 L) (E : h = h0) : OPure n0 h0 (some (.long y)) (some (.long x)) h L := ⟨by rw [q], N, E⟩
theorem own_nz1 : nar .boolean 1 = 1 := rfl
theorem own_nz0 : nar .boolean 0 = 0 := rfl
theorem own_irem {C : State} {x y : Int32} {g : JFrame} (X : Stand p l e R s m args below meth c T locs cells slots) (hx : p.tables.exec = Jvm.exec) (hg : g.method = m) {rest : List Value} (hd : decode c.code g.pc = .ok (.irem, 1)) (hs : g.stack = .int y :: .int x :: rest) (hy : y ≠ 0) :
    ∀ t, Steps p.tables e below (T.setTop { g with pc := g.pc + 1, stack := .int (x % y) :: rest }) t → Steps p.tables e below (T.setTop g) t := fun t k => iremM X hx hg hd hs hy k
/-! lcmp and the branch behind it -/
theorem own_lc (cd : ClassFile.Cond) (a b : Int64) : ifCond.holds cd (lcmpW a b) = (match cd with | .eq => decide (a = b) | .ne => !decide (a = b) | .lt => decide (a < b) | .ge => !decide (a < b) | .gt => decide (b < a) | .le => !decide (b < a)) := by
  have h1 : a = b ↔ a.toInt = b.toInt := (Int64.toInt_inj).symm
  by_cases g : a > b
  · have g' : b.toInt < a.toInt := Int64.lt_iff_toInt_lt.mp g
    have e1 : lcmpW a b = 1 := if_pos g
    have e2 : ¬ a = b := fun q => by rw [h1] at q; omega
    have e3 : ¬ a < b := fun q => by rw [Int64.lt_iff_toInt_lt] at q; omega
    have e4 : b < a := g
    rw [e1]; cases cd <;> simp [e2, e3, e4] <;> decide
  · by_cases q : a = b
    · have e1 : lcmpW a b = 0 := by rw [lcmpW, if_neg g, if_pos q]
      subst q
      have e3 : ¬ a < a := fun q => by rw [Int64.lt_iff_toInt_lt] at q; omega
      rw [e1]; cases cd <;> simp [e3] <;> decide
    · have e1 : lcmpW a b = -1 := by rw [lcmpW, if_neg g, if_neg q]
      have g1 : ¬ b < a := g
      have g2 : a < b := by rw [Int64.lt_iff_toInt_lt] at g1 ⊢; rw [h1] at q; omega
      rw [e1]; cases cd <;> simp [q, g1, g2] <;> decide
theorem lc_tlt {a b : Int64} (h : a < b) : ifCond.holds .lt (lcmpW a b) = true ∧ ifCond.holds .ge (lcmpW a b) = false ∧ ifCond.holds .gt (lcmpW b a) = true ∧ ifCond.holds .le (lcmpW b a) = false := by simp only [own_lc]; simp [h]
theorem lc_flt {a b : Int64} (h : ¬ a < b) : ifCond.holds .lt (lcmpW a b) = false ∧ ifCond.holds .ge (lcmpW a b) = true ∧ ifCond.holds .gt (lcmpW b a) = false ∧ ifCond.holds .le (lcmpW b a) = true := by simp only [own_lc]; simp [h]
theorem lc_teq {a b : Int64} (h : a = b) : ifCond.holds .eq (lcmpW a b) = true ∧ ifCond.holds .ne (lcmpW a b) = false := by simp only [own_lc]; simp [h]
theorem lc_feq {a b : Int64} (h : ¬ a = b) : ifCond.holds .eq (lcmpW a b) = false ∧ ifCond.holds .ne (lcmpW a b) = true := by simp only [own_lc]; simp [h]
theorem own_nm0 {a : Addr} : a ∉ ([] : List Addr) := fun q => nomatch q
theorem own_nm1 {a b : Addr} (h : a ≠ b) : a ∉ [b] := fun q => h (List.mem_singleton.mp q)
theorem own_nm2 {a b d : Addr} (h : a ≠ b) (h' : a ≠ d) : a ∉ [b, d] := fun q => (List.mem_cons.mp q).elim h fun q => h' (List.mem_singleton.mp q)
theorem own_nm3 {a b d f : Addr} (h : a ≠ b) (h' : a ≠ d) (h'' : a ≠ f) : a ∉ [b, d, f] := fun q => (List.mem_cons.mp q).elim h fun q => (own_nm2 h' h'') q
/-! arrays of numbers, known whole -/
/-- the array at a holds just the ints vs -/
def OAL (Z : State) (h : Heap) (a : Addr) (ty : FieldType) (vs : List Int32) : Prop := ∃ c : Cell, Arr Z h a c ty ∧ c.slots = (vs.map Value.int).toArray
/-- the array at a holds just the longs vs -/
def OAJ (Z : State) (h : Heap) (a : Addr) (vs : List Int64) : Prop := ∃ c : Cell, Arr Z h a c .long ∧ c.slots = (vs.map Value.long).toArray
/-- the place j lies inside and holds v -/
def OAt {α : Type} (vs : List α) (j : Int32) (v : α) : Prop := ¬ j < 0 ∧ vs[j.toNatClampNeg]? = some v
variable {a b : Addr} {ty : FieldType} {vs : List Int32} {us : List Int64} {ws : List Addr} {sl : Nat} {w : Value}
theorem OAL.lt (A : OAL Z h a ty vs) : a < h.size := by obtain ⟨c, A, -⟩ := A; exact A.lt
theorem OAJ.lt (A : OAJ Z h a us) : a < h.size := by obtain ⟨c, A, -⟩ := A; exact A.lt
theorem OAL.ext (A : OAL Z h a ty vs) (E : Ext h h') : OAL Z h' a ty vs := by obtain ⟨c, A, r⟩ := A; exact ⟨c, A.ext E, r⟩
theorem OAJ.ext (A : OAJ Z h a us) (E : Ext h h') : OAJ Z h' a us := by obtain ⟨c, A, r⟩ := A; exact ⟨c, A.ext E, r⟩
theorem OAL.keep (A : OAL Z h a ty vs) (K : Keep h h' ws) (q : a ∉ ws) : OAL Z h' a ty vs := by obtain ⟨c, A, r⟩ := A; exact ⟨c, ⟨K.2.1 a c A.1 q, A.2⟩, r⟩
theorem OAJ.keep (A : OAJ Z h a us) (K : Keep h h' ws) (q : a ∉ ws) : OAJ Z h' a us := by obtain ⟨c, A, r⟩ := A; exact ⟨c, ⟨K.2.1 a c A.1 q, A.2⟩, r⟩
theorem OAL.other (A : OAL Z h b ty vs) (W : Wr h h' a sl w) (q : b ≠ a) : OAL Z h' b ty vs := by obtain ⟨c, A, r⟩ := A; exact ⟨c, A.other W q, r⟩
theorem OAJ.other (A : OAJ Z h b us) (W : Wr h h' a sl w) (q : b ≠ a) : OAJ Z h' b us := by obtain ⟨c, A, r⟩ := A; exact ⟨c, A.other W q, r⟩
theorem own_slots (cl : Cell) (i : Nat) (v : Value) : (cl.setSlot i v).slots = cl.slots.setIfInBounds i v := rfl
theorem OAL.same (A : OAL Z h a ty vs) {i : Nat} {x : Int32} (W : Wr h h' a i (.int x)) : OAL Z h' a ty (vs.set i x) := by
  obtain ⟨c, A, r⟩ := A
  exact ⟨_, A.same W, by rw [own_slots, r]; simp [List.map_set]⟩
theorem OAJ.same (A : OAJ Z h a us) {i : Nat} {x : Int64} (W : Wr h h' a i (.long x)) : OAJ Z h' a (us.set i x) := by
  obtain ⟨c, A, r⟩ := A
  exact ⟨_, A.same W, by rw [own_slots, r]; simp [List.map_set]⟩
theorem OAL.new {cA : ClassId} {n : Int32} (A : Arr Z h a (newA cA ty n) ty) (q : defaultValue ty = .int 0) : OAL Z h a ty (List.replicate n.toNatClampNeg 0) := ⟨_, A, by
  show Array.replicate n.toNatClampNeg (defaultValue ty) = _
  rw [q]; simp⟩
theorem OAJ.new {cA : ClassId} {n : Int32} (A : Arr Z h a (newA cA .long n) .long) : OAJ Z h a (List.replicate n.toNatClampNeg 0) := ⟨_, A, by
  show Array.replicate n.toNatClampNeg (Value.long 0) = _
  simp⟩
theorem own_in {α : Type} {vs : List α} {f : α → Value} {j : Int32} {v : α} {cl : Cell} (r : cl.slots = (vs.map f).toArray) (q : OAt vs j v) : ¬ (j < 0 ∨ cl.slots.size ≤ j.toNatClampNeg) ∧ cl.slots[j.toNatClampNeg]? = some (f v) := by
  obtain ⟨q1, q2⟩ := q
  have hl := (List.getElem?_eq_some_iff.mp q2).1
  rw [r]
  refine ⟨fun z => z.elim q1 fun y => ?_, ?_⟩
  · simp at y; omega
  · simp [q2]
theorem OAL.baB (X : Stand p l e R s m args below meth c T locs cells slots) (hx : p.tables.exec = Jvm.exec) (hZ : Z.Warmed39 s.vm) (eT : T.heap = h) (A : OAL Z h a .byte vs) {j v : Int32} (q : OAt vs j v) {pc : Nat} {Ls : Array Slot} {rest : List Value} (hd : decode c.code pc = .ok (.baload, 1)) {t : State}
    (k : Steps p.tables e below (T.setTop (mkF m (pc + 1) Ls (.int v :: rest))) t) : Steps p.tables e below (T.setTop (mkF m pc Ls (.int j :: .ref a :: rest))) t := by
  obtain ⟨cl, A, r⟩ := A
  exact X.baloadBytes hx (j := j) (v := .int v) (by rw [eT]; exact A.1) (State.isArrayOf_alike hZ.alike A.2.1) A.2.2 (own_in r q).1 (own_in r q).2 (g := mkF m pc Ls (.int j :: .ref a :: rest)) rfl rfl hd _ k
theorem OAL.baZ (X : Stand p l e R s m args below meth c T locs cells slots) (hx : p.tables.exec = Jvm.exec) (hZ : Z.Warmed39 s.vm) (eT : T.heap = h) (A : OAL Z h a .boolean vs) {j v : Int32} (q : OAt vs j v) {pc : Nat} {Ls : Array Slot} {rest : List Value} (hd : decode c.code pc = .ok (.baload, 1)) {t : State}
    (k : Steps p.tables e below (T.setTop (mkF m (pc + 1) Ls (.int v :: rest))) t) : Steps p.tables e below (T.setTop (mkF m pc Ls (.int j :: .ref a :: rest))) t := by
  obtain ⟨cl, A, r⟩ := A
  exact X.baloadBooleans hx (j := j) (v := .int v) (by rw [eT]; exact A.1) (State.isArrayOf_alike hZ.alike A.2.1) A.2.2 (own_in r q).1 (own_in r q).2 (g := mkF m pc Ls (.int j :: .ref a :: rest)) rfl rfl hd _ k
theorem OAL.ia (X : Stand p l e R s m args below meth c T locs cells slots) (hx : p.tables.exec = Jvm.exec) (hZ : Z.Warmed39 s.vm) (eT : T.heap = h) (A : OAL Z h a .int vs) {j v : Int32} (q : OAt vs j v) {pc : Nat} {Ls : Array Slot} {rest : List Value} (hd : decode c.code pc = .ok (.iaload, 1)) {t : State}
    (k : Steps p.tables e below (T.setTop (mkF m (pc + 1) Ls (.int v :: rest))) t) : Steps p.tables e below (T.setTop (mkF m pc Ls (.int j :: .ref a :: rest))) t := by
  obtain ⟨cl, A, r⟩ := A
  exact X.iaload hx (j := j) (v := .int v) (by rw [eT]; exact A.1) (State.isArrayOf_alike hZ.alike A.2.1) A.2.2 (own_in r q).1 (own_in r q).2 (g := mkF m pc Ls (.int j :: .ref a :: rest)) rfl rfl hd _ k
theorem OAJ.la (X : Stand p l e R s m args below meth c T locs cells slots) (hx : p.tables.exec = Jvm.exec) (hZ : Z.Warmed39 s.vm) (eT : T.heap = h) (A : OAJ Z h a us) {j : Int32} {v : Int64} (q : OAt us j v) {pc : Nat} {Ls : Array Slot} {rest : List Value} (hd : decode c.code pc = .ok (.laload, 1)) {t : State}
    (k : Steps p.tables e below (T.setTop (mkF m (pc + 1) Ls (.long v :: rest))) t) : Steps p.tables e below (T.setTop (mkF m pc Ls (.int j :: .ref a :: rest))) t := by
  obtain ⟨cl, A, r⟩ := A
  exact X.laload hx (j := j) (v := .long v) (by rw [eT]; exact A.1) (State.isArrayOf_alike hZ.alike A.2.1) A.2.2 (own_in r q).1 (own_in r q).2 (g := mkF m pc Ls (.int j :: .ref a :: rest)) rfl rfl hd _ k
theorem OAL.len (X : Stand p l e R s m args below meth c T locs cells slots) (hx : p.tables.exec = Jvm.exec) (hZ : Z.Warmed39 s.vm) (eT : T.heap = h) (A : OAL Z h a ty vs) {n : Int32} (q : vs.length.toInt32 = n) {pc : Nat} {Ls : Array Slot} {rest : List Value} (hd : decode c.code pc = .ok (.arraylength, 1)) {t : State}
    (k : Steps p.tables e below (T.setTop (mkF m (pc + 1) Ls (.int n :: rest))) t) : Steps p.tables e below (T.setTop (mkF m pc Ls (.ref a :: rest))) t := by
  obtain ⟨cl, A, r⟩ := A
  have z : cl.slots.size = vs.length := by rw [r]; simp
  exact X.arraylength hx (by rw [eT]; exact A.1) (State.isArrayOf_alike hZ.alike A.2.1) (g := mkF m pc Ls (.ref a :: rest)) rfl rfl hd _ (by rw [z, q]; exact k)
theorem OAJ.len (X : Stand p l e R s m args below meth c T locs cells slots) (hx : p.tables.exec = Jvm.exec) (hZ : Z.Warmed39 s.vm) (eT : T.heap = h) (A : OAJ Z h a us) {n : Int32} (q : us.length.toInt32 = n) {pc : Nat} {Ls : Array Slot} {rest : List Value} (hd : decode c.code pc = .ok (.arraylength, 1)) {t : State}
    (k : Steps p.tables e below (T.setTop (mkF m (pc + 1) Ls (.int n :: rest))) t) : Steps p.tables e below (T.setTop (mkF m pc Ls (.ref a :: rest))) t := by
  obtain ⟨cl, A, r⟩ := A
  have z : cl.slots.size = us.length := by rw [r]; simp
  exact X.arraylength hx (by rw [eT]; exact A.1) (State.isArrayOf_alike hZ.alike A.2.1) (g := mkF m pc Ls (.ref a :: rest)) rfl rfl hd _ (by rw [z, q]; exact k)
theorem own_into {α : Type} {vs : List α} {f : α → Value} {j : Int32} {cl : Cell} (r : cl.slots = (vs.map f).toArray) (q1 : ¬ j < 0) (q2 : j.toNatClampNeg < vs.length) : ¬ (j < 0 ∨ cl.slots.size ≤ j.toNatClampNeg) := by
  rw [r]
  exact fun z => z.elim q1 fun y => by simp at y; omega
theorem OAL.stB (X : Stand p l e R s m args below meth c T locs cells slots) (hx : p.tables.exec = Jvm.exec) (hZ : Z.Warmed39 s.vm) (eT : T.heap = h) (A : OAL Z h a .byte vs) {j x : Int32} (q1 : ¬ j < 0) (q2 : j.toNatClampNeg < vs.length) {pc : Nat} {Ls : Array Slot} {rest : List Value} (hd : decode c.code pc = .ok (.bastore, 1)) :
    ∃ T' h', Stand p l e R s m args below meth c T' (locs ++ [⟨a, j.toNatClampNeg⟩]) cells slots ∧ T'.heap = h' ∧ Wr h h' a j.toNatClampNeg (.int (nar .byte x)) ∧ OAL Z h' a .byte (vs.set j.toNatClampNeg (nar .byte x)) ∧ ∀ t, Steps p.tables e below (T'.setTop (mkF m (pc + 1) Ls rest)) t → Steps p.tables e below (T.setTop (mkF m pc Ls (.int x :: .int j :: .ref a :: rest))) t := by
  obtain ⟨cl, A', r⟩ := A
  obtain ⟨T', h', X', e', W', st⟩ := Jvm.RoadKit.stB X hx hZ eT A' (j := j) (x := x) (own_into r q1 q2) (g := mkF m pc Ls (.int x :: .int j :: .ref a :: rest)) rfl rfl hd
  exact ⟨T', h', X', e', W', OAL.same ⟨cl, A', r⟩ W', st⟩
theorem OAL.stZ (X : Stand p l e R s m args below meth c T locs cells slots) (hx : p.tables.exec = Jvm.exec) (hZ : Z.Warmed39 s.vm) (eT : T.heap = h) (A : OAL Z h a .boolean vs) {j x : Int32} (q1 : ¬ j < 0) (q2 : j.toNatClampNeg < vs.length) {pc : Nat} {Ls : Array Slot} {rest : List Value} (hd : decode c.code pc = .ok (.bastore, 1)) :
    ∃ T' h', Stand p l e R s m args below meth c T' (locs ++ [⟨a, j.toNatClampNeg⟩]) cells slots ∧ T'.heap = h' ∧ Wr h h' a j.toNatClampNeg (.int (nar .boolean x)) ∧ OAL Z h' a .boolean (vs.set j.toNatClampNeg (nar .boolean x)) ∧ ∀ t, Steps p.tables e below (T'.setTop (mkF m (pc + 1) Ls rest)) t → Steps p.tables e below (T.setTop (mkF m pc Ls (.int x :: .int j :: .ref a :: rest))) t := by
  obtain ⟨cl, A', r⟩ := A
  obtain ⟨T', h', X', e', W', st⟩ := Jvm.RoadKit.stZ X hx hZ eT A' (j := j) (x := x) (own_into r q1 q2) (g := mkF m pc Ls (.int x :: .int j :: .ref a :: rest)) rfl rfl hd
  exact ⟨T', h', X', e', W', OAL.same ⟨cl, A', r⟩ W', st⟩
theorem OAL.stI (X : Stand p l e R s m args below meth c T locs cells slots) (hx : p.tables.exec = Jvm.exec) (hZ : Z.Warmed39 s.vm) (eT : T.heap = h) (A : OAL Z h a .int vs) {j x : Int32} (q1 : ¬ j < 0) (q2 : j.toNatClampNeg < vs.length) {pc : Nat} {Ls : Array Slot} {rest : List Value} (hd : decode c.code pc = .ok (.iastore, 1)) :
    ∃ T' h', Stand p l e R s m args below meth c T' (locs ++ [⟨a, j.toNatClampNeg⟩]) cells slots ∧ T'.heap = h' ∧ Wr h h' a j.toNatClampNeg (.int x) ∧ OAL Z h' a .int (vs.set j.toNatClampNeg x) ∧ ∀ t, Steps p.tables e below (T'.setTop (mkF m (pc + 1) Ls rest)) t → Steps p.tables e below (T.setTop (mkF m pc Ls (.int x :: .int j :: .ref a :: rest))) t := by
  obtain ⟨cl, A', r⟩ := A
  obtain ⟨T', h', X', e', W', st⟩ := Jvm.RoadKit.stI X hx hZ eT A' (j := j) (x := x) (own_into r q1 q2) (g := mkF m pc Ls (.int x :: .int j :: .ref a :: rest)) rfl rfl hd
  exact ⟨T', h', X', e', W', OAL.same ⟨cl, A', r⟩ W', st⟩
theorem OAJ.stJ (X : Stand p l e R s m args below meth c T locs cells slots) (hx : p.tables.exec = Jvm.exec) (hZ : Z.Warmed39 s.vm) (eT : T.heap = h) (A : OAJ Z h a us) {j : Int32} {x : Int64} (q1 : ¬ j < 0) (q2 : j.toNatClampNeg < us.length) {pc : Nat} {Ls : Array Slot} {rest : List Value} (hd : decode c.code pc = .ok (.lastore, 1)) :
    ∃ T' h', Stand p l e R s m args below meth c T' (locs ++ [⟨a, j.toNatClampNeg⟩]) cells slots ∧ T'.heap = h' ∧ Wr h h' a j.toNatClampNeg (.long x) ∧ OAJ Z h' a (us.set j.toNatClampNeg x) ∧ ∀ t, Steps p.tables e below (T'.setTop (mkF m (pc + 1) Ls rest)) t → Steps p.tables e below (T.setTop (mkF m pc Ls (.long x :: .int j :: .ref a :: rest))) t := by
  obtain ⟨cl, A', r⟩ := A
  obtain ⟨T', h', X', e', W', st⟩ := Jvm.RoadKit.stJ X hx hZ eT A' (j := j) (x := x) (own_into r q1 q2) (g := mkF m pc Ls (.long x :: .int j :: .ref a :: rest)) rfl rfl hd
  exact ⟨T', h', X', e', W', OAJ.same ⟨cl, A', r⟩ W', st⟩
end Own
end Jvm.RoadKit
namespace Jvm.Pilot.@@N@@
open Jvm Jvm.ClassFile Sem Op Lib Jvm.Free Jvm.Stand Jvm.LawKit Jvm.RoadKit Bundle Jvm.Pilot.@@N@@.Jvm.D
/-! numbers without sign -/
def n32 (y : Int32) : Nat := y.toBitVec.toNat
def n64 (x : Int64) : Nat := x.toBitVec.toNat
theorem n32_lt (y : Int32) : n32 y < 2 ^ 32 := y.toBitVec.isLt
theorem n64_lt (x : Int64) : n64 x < 2 ^ 64 := x.toBitVec.isLt
theorem n64_inj {x y : Int64} (h : n64 x = n64 y) : x = y := Int64.toBitVec_inj.mp (BitVec.eq_of_toNat_eq h)
theorem n32_inj {x y : Int32} (h : n32 x = n32 y) : x = y := Int32.toBitVec_inj.mp (BitVec.eq_of_toNat_eq h)
theorem own_b8 (z : Int8) : n64 (z.toInt32.toInt8.toInt32.toInt64 &&& 255) = z.toBitVec.toNat := by
  have k : ∀ n : Fin 256, n64 ((Int8.ofBitVec (BitVec.ofFin n)).toInt32.toInt8.toInt32.toInt64 &&& 255) = n.val := by decide +kernel
  exact k z.toBitVec.toFin
theorem n8_of32 (y : Int32) : y.toInt8.toBitVec.toNat = n32 y % 256 := by
  show (y.toBitVec.signExtend 8).toNat = y.toBitVec.toNat % 256
  rw [BitVec.signExtend_eq_setWidth_of_le _ (by decide), BitVec.toNat_setWidth]
theorem own_byte (y : Int32) : n64 (y.toInt8.toInt32.toInt8.toInt32.toInt64 &&& 255) = n32 y % 256 := by rw [own_b8, n8_of32]
theorem n32_of64 (x : Int64) : n32 x.toInt32 = n64 x % 2 ^ 32 := by
  show (x.toBitVec.signExtend 32).toNat = x.toBitVec.toNat % 2 ^ 32
  rw [BitVec.signExtend_eq_setWidth_of_le _ (by decide), BitVec.toNat_setWidth]
theorem n32_shr (x : Int32) {n : UInt32} {k : Nat} (hn : n.toNat = k) (hk : k < 32) : n32 (x.toUInt32 >>> n).toInt32 = n32 x / 2 ^ k := by
  show (x.toUInt32 >>> n).toNat = x.toUInt32.toNat / 2 ^ k
  rw [UInt32.toNat_shiftRight, hn, Nat.mod_eq_of_lt hk, Nat.shiftRight_eq_div_pow]
theorem n64_shr (x : Int64) {n : UInt64} {k : Nat} (hn : n.toNat = k) (hk : k < 64) : n64 (x.toUInt64 >>> n).toInt64 = n64 x / 2 ^ k := by
  show (x.toUInt64 >>> n).toNat = x.toUInt64.toNat / 2 ^ k
  rw [UInt64.toNat_shiftRight, hn, Nat.mod_eq_of_lt hk, Nat.shiftRight_eq_div_pow]
theorem n64_shl (x n : Int64) {k : Nat} (hn : (n.toBitVec.smod 64).toNat = k) (h : n64 x * 2 ^ k < 2 ^ 64) : n64 (x <<< n) = n64 x * 2 ^ k := by
  show (x.toBitVec <<< (n.toBitVec.smod 64)).toNat = x.toBitVec.toNat * 2 ^ k
  rw [BitVec.shiftLeft_eq', hn, BitVec.toNat_shiftLeft, Nat.shiftLeft_eq]
  exact Nat.mod_eq_of_lt h
theorem n64_or {x y : Int64} {k q : Nat} (hx : n64 x < 2 ^ k) (hy : n64 y = q * 2 ^ k) : n64 (x ||| y) = n64 x + n64 y := by
  show (x.toBitVec ||| y.toBitVec).toNat = _
  rw [BitVec.toNat_or]
  have e : y.toBitVec.toNat = q <<< k := by rw [Nat.shiftLeft_eq]; exact hy
  have f := Nat.shiftLeft_add_eq_or_of_lt hx q
  rw [Nat.or_comm, e]
  show q <<< k ||| n64 x = n64 x + n64 y
  rw [← f, hy, Nat.shiftLeft_eq, Nat.add_comm]
theorem n64_or' {x y : Int64} {k q : Nat} (hx : n64 x < 2 ^ k) (hy : n64 y = q * 2 ^ k) : n64 (y ||| x) = n64 y + n64 x := by
  have e : y ||| x = x ||| y := Int64.or_comm y x
  rw [e, n64_or hx hy, Nat.add_comm]
theorem own_x {m : Nat} {P : Int32 → Prop} {o : Int32} (h : ∃ n : Fin m, o = Int32.ofNat n.val) (k : ∀ n : Fin m, P (Int32.ofNat n.val)) : P o := by obtain ⟨n, rfl⟩ := h; exact k n
theorem own_mod (a k : Int32) {m : Nat} (hk : k.toInt = m) (h0 : 0 < m) (h1 : m < 2 ^ 31) : ∃ n : Fin m, (a &&& 2147483647) % k = Int32.ofNat n.val := by
  have e : 0 ≤ (a &&& 2147483647).toInt := by
    rw [Jvm.Kit.i32_mask a 2147483647 (k := 31) (by decide) (by decide)]; exact Int.emod_nonneg _ (by decide)
  have e2 := Jvm.Kit.i32_rem_nonneg (x := a &&& 2147483647) (y := k) e
  rw [hk] at e2
  have m1 := Int.emod_nonneg (a &&& 2147483647).toInt (b := (m : Int)) (by omega)
  have m2 := Int.emod_lt_of_pos (a &&& 2147483647).toInt (b := (m : Int)) (by omega)
  refine ⟨⟨((a &&& 2147483647).toInt % m).toNat, by omega⟩, ?_⟩
  rw [← Int32.toInt_inj, e2, Int32.toInt_ofNat_of_lt (by show ((a &&& 2147483647).toInt % m).toNat < _; omega)]
  show _ = ((((a &&& 2147483647).toInt % m).toNat : Nat) : Int)
  omega
def own_f (r : Int64) (w : Int32) : Int64 := (r <<< ((8 : Int32) &&& 0x3f).toInt64) ||| (w.toInt64 &&& 255)
theorem own_f_n {r : Int64} (y : Int32) (h : n64 r < 2 ^ 56) : n64 (own_f r (y.toInt8.toInt32.toInt8.toInt32)) = n64 r * 2 ^ 8 + n32 y % 256 := by
  have s := n64_shl r ((8 : Int32) &&& 0x3f).toInt64 (k := 8) (by decide) (by omega)
  have b := own_byte y
  have o := n64_or' (k := 8) (x := y.toInt8.toInt32.toInt8.toInt32.toInt64 &&& 255) (y := r <<< ((8 : Int32) &&& 0x3f).toInt64) (by omega) s
  unfold own_f
  rw [o, s, b]
theorem own_f_s {r v : Int64} {n : UInt64} {k : Nat} (hn : n.toNat = k) (hk : k < 56) (h : n64 r = n64 v / 2 ^ (k + 8)) : n64 (own_f r (((v.toUInt64 >>> n).toInt64).toInt32.toInt8.toInt32.toInt8.toInt32)) = n64 v / 2 ^ k := by
  have l := n64_lt v
  have e := n64_shr v hn (by omega)
  have e2 := n32_of64 ((v.toUInt64 >>> n).toInt64)
  have p : n64 v / 2 ^ (k + 8) = n64 v / 2 ^ k / 256 := by rw [Nat.pow_add, Nat.div_div_eq_div_mul]
  have q : n64 v / 2 ^ k ≤ n64 v := Nat.div_le_self _ _
  rw [own_f_n _ (by omega), e2, e, h, p]
  generalize n64 v / 2 ^ k = z
  omega
theorem own_f_0 {v : Int64} : n64 (own_f 0 (((v.toUInt64 >>> ((56 : Int32) &&& 0x3f).toInt64.toUInt64).toInt64).toInt32.toInt8.toInt32.toInt8.toInt32)) = n64 v / 2 ^ 56 := by
  have l := n64_lt v
  have e := n64_shr v (n := ((56 : Int32) &&& 0x3f).toInt64.toUInt64) (k := 56) (by decide) (by decide)
  have e2 := n32_of64 ((v.toUInt64 >>> ((56 : Int32) &&& 0x3f).toInt64.toUInt64).toInt64)
  have z : n64 0 = 0 := by decide
  rw [own_f_n _ (by rw [z]; decide), e2, e, z]
  omega
theorem own_f_l {r v : Int64} (h : n64 r = n64 v / 2 ^ 8) : n64 (own_f r (v.toInt32.toInt8.toInt32.toInt8.toInt32)) = n64 v := by
  have l := n64_lt v
  have e2 := n32_of64 v
  rw [own_f_n _ (by omega), e2, h]
  omega
theorem own_eq (v : Int64) : own_f (own_f (own_f (own_f (own_f (own_f (own_f (own_f 0 (((v.toUInt64 >>> ((56 : Int32) &&& 0x3f).toInt64.toUInt64).toInt64).toInt32.toInt8.toInt32.toInt8.toInt32)) (((v.toUInt64 >>> ((48 : Int32) &&& 0x3f).toInt64.toUInt64).toInt64).toInt32.toInt8.toInt32.toInt8.toInt32)) (((v.toUInt64 >>> ((40 : Int32) &&& 0x3f).toInt64.toUInt64).toInt64).toInt32.toInt8.toInt32.toInt8.toInt32)) (((v.toUInt64 >>> ((32 : Int32) &&& 0x3f).toInt64.toUInt64).toInt64).toInt32.toInt8.toInt32.toInt8.toInt32)) (((v.toUInt64 >>> ((24 : Int32) &&& 0x3f).toInt64.toUInt64).toInt64).toInt32.toInt8.toInt32.toInt8.toInt32)) (((v.toUInt64 >>> ((16 : Int32) &&& 0x3f).toInt64.toUInt64).toInt64).toInt32.toInt8.toInt32.toInt8.toInt32)) (((v.toUInt64 >>> ((8 : Int32) &&& 0x3f).toInt64.toUInt64).toInt64).toInt32.toInt8.toInt32.toInt8.toInt32)) (v.toInt32.toInt8.toInt32.toInt8.toInt32) = v := by
  apply n64_inj
  apply own_f_l
  apply own_f_s (k := 8) (by decide) (by decide)
  apply own_f_s (k := 16) (by decide) (by decide)
  apply own_f_s (k := 24) (by decide) (by decide)
  apply own_f_s (k := 32) (by decide) (by decide)
  apply own_f_s (k := 40) (by decide) (by decide)
  apply own_f_s (k := 48) (by decide) (by decide)
  exact own_f_0
theorem own_at {o : Int32} (h : ∃ n : Fin 4, o = Int32.ofNat n.val) (x0 x1 x2 x3 x4 x5 x6 x7 x8 x9 x10 y0 y1 y2 y3 y4 y5 y6 y7 : Int32) : OAt (((((((([x0, x1, x2, x3, x4, x5, x6, x7, x8, x9, x10].set o.toNatClampNeg y0).set (o + 1).toNatClampNeg y1).set (o + 2).toNatClampNeg y2).set (o + 3).toNatClampNeg y3).set (o + 4).toNatClampNeg y4).set (o + 5).toNatClampNeg y5).set (o + 6).toNatClampNeg y6).set (o + 7).toNatClampNeg y7) o y0 ∧ OAt (((((((([x0, x1, x2, x3, x4, x5, x6, x7, x8, x9, x10].set o.toNatClampNeg y0).set (o + 1).toNatClampNeg y1).set (o + 2).toNatClampNeg y2).set (o + 3).toNatClampNeg y3).set (o + 4).toNatClampNeg y4).set (o + 5).toNatClampNeg y5).set (o + 6).toNatClampNeg y6).set (o + 7).toNatClampNeg y7) (o + (1 : Int32)) y1 ∧ OAt (((((((([x0, x1, x2, x3, x4, x5, x6, x7, x8, x9, x10].set o.toNatClampNeg y0).set (o + 1).toNatClampNeg y1).set (o + 2).toNatClampNeg y2).set (o + 3).toNatClampNeg y3).set (o + 4).toNatClampNeg y4).set (o + 5).toNatClampNeg y5).set (o + 6).toNatClampNeg y6).set (o + 7).toNatClampNeg y7) ((o + (1 : Int32)) + (1 : Int32)) y2 ∧ OAt (((((((([x0, x1, x2, x3, x4, x5, x6, x7, x8, x9, x10].set o.toNatClampNeg y0).set (o + 1).toNatClampNeg y1).set (o + 2).toNatClampNeg y2).set (o + 3).toNatClampNeg y3).set (o + 4).toNatClampNeg y4).set (o + 5).toNatClampNeg y5).set (o + 6).toNatClampNeg y6).set (o + 7).toNatClampNeg y7) (((o + (1 : Int32)) + (1 : Int32)) + (1 : Int32)) y3 ∧ OAt (((((((([x0, x1, x2, x3, x4, x5, x6, x7, x8, x9, x10].set o.toNatClampNeg y0).set (o + 1).toNatClampNeg y1).set (o + 2).toNatClampNeg y2).set (o + 3).toNatClampNeg y3).set (o + 4).toNatClampNeg y4).set (o + 5).toNatClampNeg y5).set (o + 6).toNatClampNeg y6).set (o + 7).toNatClampNeg y7) ((((o + (1 : Int32)) + (1 : Int32)) + (1 : Int32)) + (1 : Int32)) y4 ∧ OAt (((((((([x0, x1, x2, x3, x4, x5, x6, x7, x8, x9, x10].set o.toNatClampNeg y0).set (o + 1).toNatClampNeg y1).set (o + 2).toNatClampNeg y2).set (o + 3).toNatClampNeg y3).set (o + 4).toNatClampNeg y4).set (o + 5).toNatClampNeg y5).set (o + 6).toNatClampNeg y6).set (o + 7).toNatClampNeg y7) (((((o + (1 : Int32)) + (1 : Int32)) + (1 : Int32)) + (1 : Int32)) + (1 : Int32)) y5 ∧ OAt (((((((([x0, x1, x2, x3, x4, x5, x6, x7, x8, x9, x10].set o.toNatClampNeg y0).set (o + 1).toNatClampNeg y1).set (o + 2).toNatClampNeg y2).set (o + 3).toNatClampNeg y3).set (o + 4).toNatClampNeg y4).set (o + 5).toNatClampNeg y5).set (o + 6).toNatClampNeg y6).set (o + 7).toNatClampNeg y7) ((((((o + (1 : Int32)) + (1 : Int32)) + (1 : Int32)) + (1 : Int32)) + (1 : Int32)) + (1 : Int32)) y6 ∧ OAt (((((((([x0, x1, x2, x3, x4, x5, x6, x7, x8, x9, x10].set o.toNatClampNeg y0).set (o + 1).toNatClampNeg y1).set (o + 2).toNatClampNeg y2).set (o + 3).toNatClampNeg y3).set (o + 4).toNatClampNeg y4).set (o + 5).toNatClampNeg y5).set (o + 6).toNatClampNeg y6).set (o + 7).toNatClampNeg y7) (((((((o + (1 : Int32)) + (1 : Int32)) + (1 : Int32)) + (1 : Int32)) + (1 : Int32)) + (1 : Int32)) + (1 : Int32)) y7 := by
  obtain ⟨⟨n, hn⟩, rfl⟩ := h
  dsimp only
  match n, hn with
  | 0, _ => exact ⟨⟨by decide, rfl⟩, ⟨by decide, rfl⟩, ⟨by decide, rfl⟩, ⟨by decide, rfl⟩, ⟨by decide, rfl⟩, ⟨by decide, rfl⟩, ⟨by decide, rfl⟩, ⟨by decide, rfl⟩⟩
  | 1, _ => exact ⟨⟨by decide, rfl⟩, ⟨by decide, rfl⟩, ⟨by decide, rfl⟩, ⟨by decide, rfl⟩, ⟨by decide, rfl⟩, ⟨by decide, rfl⟩, ⟨by decide, rfl⟩, ⟨by decide, rfl⟩⟩
  | 2, _ => exact ⟨⟨by decide, rfl⟩, ⟨by decide, rfl⟩, ⟨by decide, rfl⟩, ⟨by decide, rfl⟩, ⟨by decide, rfl⟩, ⟨by decide, rfl⟩, ⟨by decide, rfl⟩, ⟨by decide, rfl⟩⟩
  | 3, _ => exact ⟨⟨by decide, rfl⟩, ⟨by decide, rfl⟩, ⟨by decide, rfl⟩, ⟨by decide, rfl⟩, ⟨by decide, rfl⟩, ⟨by decide, rfl⟩, ⟨by decide, rfl⟩, ⟨by decide, rfl⟩⟩
theorem own_pn0 : plainName "com/example/ringward/ringward/Digests" = true := by first | (simp [plainName, overriddenIn]; done) | decide +kernel
theorem ef_own_m1 (m : MethodId) (x0 : Addr) (x1 : Int32) : entryFrame m #[(.ref x0), (.int x1)] 5 = mkF m 0 #[.val (.ref x0), .val (.int x1), .unset, .unset, .unset] [] := by first | (simp [entryFrame, mkF, argsToLocals, Value.category]; done) | rfl
theorem d1_0 : decode prog_2_method_9_code 0 = .ok (.lconst 0, 1) := by decide +kernel
theorem d1_1 : decode prog_2_method_9_code 1 = .ok (.lstore_n 2, 1) := by decide +kernel
theorem d1_2 : decode prog_2_method_9_code 2 = .ok (.iload_n 1, 1) := by decide +kernel
theorem d1_3 : decode prog_2_method_9_code 3 = .ok (.istore 4, 2) := by decide +kernel
theorem d1_5 : decode prog_2_method_9_code 5 = .ok (.iload 4, 2) := by decide +kernel
theorem d1_7 : decode prog_2_method_9_code 7 = .ok (.iload_n 1, 1) := by decide +kernel
theorem d1_8 : decode prog_2_method_9_code 8 = .ok (.bipush 8, 2) := by decide +kernel
theorem d1_10 : decode prog_2_method_9_code 10 = .ok (.iadd, 1) := by decide +kernel
theorem d1_11 : decode prog_2_method_9_code 11 = .ok (.if_icmp .ge 24, 3) := by decide +kernel
theorem d1_14 : decode prog_2_method_9_code 14 = .ok (.lload_n 2, 1) := by decide +kernel
theorem d1_15 : decode prog_2_method_9_code 15 = .ok (.bipush 8, 2) := by decide +kernel
theorem d1_17 : decode prog_2_method_9_code 17 = .ok (.lshl, 1) := by decide +kernel
theorem d1_18 : decode prog_2_method_9_code 18 = .ok (.aload_n 0, 1) := by decide +kernel
theorem d1_19 : decode prog_2_method_9_code 19 = .ok (.iload 4, 2) := by decide +kernel
theorem d1_21 : decode prog_2_method_9_code 21 = .ok (.baload, 1) := by decide +kernel
theorem d1_22 : decode prog_2_method_9_code 22 = .ok (.i2l, 1) := by decide +kernel
theorem d1_23 : decode prog_2_method_9_code 23 = .ok (.ldc2_w 68, 3) := by decide +kernel
theorem d1_26 : decode prog_2_method_9_code 26 = .ok (.land, 1) := by decide +kernel
theorem d1_27 : decode prog_2_method_9_code 27 = .ok (.lor, 1) := by decide +kernel
theorem d1_28 : decode prog_2_method_9_code 28 = .ok (.lstore_n 2, 1) := by decide +kernel
theorem d1_29 : decode prog_2_method_9_code 29 = .ok (.iinc 4 1, 3) := by decide +kernel
theorem d1_32 : decode prog_2_method_9_code 32 = .ok (.goto (-27), 3) := by decide +kernel
theorem d1_35 : decode prog_2_method_9_code 35 = .ok (.lload_n 2, 1) := by decide +kernel
theorem d1_36 : decode prog_2_method_9_code 36 = .ok (.lreturn, 1) := by decide +kernel
set_option maxRecDepth 65536 in
set_option maxHeartbeats 40000000 in
theorem own_m1 (l : Launch) (Z : State) (a0 : Array Value) (hw : ∀ d ∈ tables_1, d.before a0 Z = true) (ws : List Jvm.Cond) (ra : Addr) (vo : Int32) (vs : List Int32) (w0 w1 w2 w3 w4 w5 w6 w7 : Int32) (h0 : Heap) (n0 : Nat) (Z0 : n0 ≤ h0.size) (ho : ∃ n : Fin 4, vo = Int32.ofNat n.val) (A0 : OAL Z h0 ra .byte vs) (q0 : OAt vs vo w0) (q1 : OAt vs (vo + (1 : Int32)) w1) (q2 : OAt vs ((vo + (1 : Int32)) + (1 : Int32)) w2) (q3 : OAt vs (((vo + (1 : Int32)) + (1 : Int32)) + (1 : Int32)) w3) (q4 : OAt vs ((((vo + (1 : Int32)) + (1 : Int32)) + (1 : Int32)) + (1 : Int32)) w4) (q5 : OAt vs (((((vo + (1 : Int32)) + (1 : Int32)) + (1 : Int32)) + (1 : Int32)) + (1 : Int32)) w5) (q6 : OAt vs ((((((vo + (1 : Int32)) + (1 : Int32)) + (1 : Int32)) + (1 : Int32)) + (1 : Int32)) + (1 : Int32)) w6) (q7 : OAt vs (((((((vo + (1 : Int32)) + (1 : Int32)) + (1 : Int32)) + (1 : Int32)) + (1 : Int32)) + (1 : Int32)) + (1 : Int32)) w7) :
    MetFree l (⟨"com/example/ringward/ringward/Digests", "uint64BigEndian", "([BI)J"⟩ : MethodName) (head1 (Jvm.Cond.code (⟨"com/example/ringward/ringward/Digests", "uint64BigEndian", "([BI)J"⟩ : MethodName) prog_2_method_9_code 5 (some .long) :: ws) ({ frames := 0, cells := 0, slots := 0, locals := 0 } : Room)) (fun a U => a = #[(.ref ra), (.int vo)] ∧ Z.Warmed39 U.vm ∧ U.heap = h0) (fun _ _ _ _ _ => True) (fun _ U o U' => ∃ v L, o = .returned v ∧ (OPure n0 h0 (some (.long (own_f (own_f (own_f (own_f (own_f (own_f (own_f (own_f (0 : Int64) w0) w1) w2) w3) w4) w5) w6) w7)))) v U'.heap L ∧ FrameEnd U o U' L ({ frames := 0, cells := 0, slots := 0, locals := 0 } : Room).cells ({ frames := 0, cells := 0, slots := 0, locals := 0 } : Room).slots) := by
  refine MetFree.of_bodySF (plainFor_of_name own_pn0) hisR ?_
  intro p e s m args below meth c s₁ Bd hml0 hP hK
  obtain ⟨rfl, hZ, hh⟩ := hP
  have hx := Bd.exec
  have hby := Bd.bytes
  have hret := Bd.returns
  have hlk : meth.locks = false := Bd.notSynchronized
  have hml : c.maxLocals = 5 := hml0
  have hown : s.vm.findClass "com/example/ringward/ringward/Digests" = some m.cls := findClass_of_methodNamed Bd.named
  have hnm := (name_of_methodNamed Bd.named Bd.method).1
  have X0 : Stand p l e ({ frames := 0, cells := 0, slots := 0, locals := 0 } : Room) s m #[(.ref ra), (.int vo)] below meth c s₁ [] 0 0 := Stand.of_body Bd
  have e0 : s₁.heap = h0 := by rw [← hh, Bd.state]; rfl
  have N0 := Fr.nil n0
  have pre0 : ∀ t, Steps p.tables e below (s₁.setTop (mkF m 0 #[.val (.ref ra), .val (.int vo), .unset, .unset, .unset] [])) t → Steps p.tables e below (s₁.setTop (entryFrame m #[(.ref ra), (.int vo)] 5)) t := fun t k => castTop (ef_own_m1 m ra vo) k
  show OGo p e below s (OPure n0 h0 (some (.long (own_f (own_f (own_f (own_f (own_f (own_f (own_f (own_f (0 : Int64) w0) w1) w2) w3) w4) w5) w6) w7)))) ({ frames := 0, cells := 0, slots := 0, locals := 0 } : Room).cells ({ frames := 0, cells := 0, slots := 0, locals := 0 } : Room).slots (s₁.setTop (entryFrame m #[(.ref ra), (.int vo)] 5))
  refine OGo.on pre0 ?_
  show OGo p e below s _ _ _ (s₁.setTop (mkF m 0 #[.val (.ref ra), .val (.int vo), .unset, .unset, .unset] []))
  refine OGo.on (fun t k => XS.lconst X0.here hx rfl (hb hby d1_0) k) ?_
  show OGo p e below s _ _ _ (s₁.setTop (mkF m 1 #[.val (.ref ra), .val (.int vo), .unset, .unset, .unset] [(.long (0 : Int64))]))
  refine OGo.on (fun t k => XS.lstoreN X0.here hx rfl (hb hby d1_1) rfl (l' := #[.val (.ref ra), .val (.int vo), .val (.long (0 : Int64)), .second, .unset]) rfl k) ?_
  show OGo p e below s _ _ _ (s₁.setTop (mkF m 2 #[.val (.ref ra), .val (.int vo), .val (.long (0 : Int64)), .second, .unset] []))
  refine OGo.on (fun t k => XS.iloadN X0.here hx rfl (hb hby d1_2) rfl k) ?_
  show OGo p e below s _ _ _ (s₁.setTop (mkF m 3 #[.val (.ref ra), .val (.int vo), .val (.long (0 : Int64)), .second, .unset] [(.int vo)]))
  refine OGo.on (fun t k => XS.istore X0.here hx rfl (hb hby d1_3) rfl (l' := #[.val (.ref ra), .val (.int vo), .val (.long (0 : Int64)), .second, .val (.int vo)]) rfl k) ?_
  show OGo p e below s _ _ _ (s₁.setTop (mkF m 5 #[.val (.ref ra), .val (.int vo), .val (.long (0 : Int64)), .second, .val (.int vo)] []))
  refine OGo.on (fun t k => XS.iload X0.here hx rfl (hb hby d1_5) rfl k) ?_
  show OGo p e below s _ _ _ (s₁.setTop (mkF m 7 #[.val (.ref ra), .val (.int vo), .val (.long (0 : Int64)), .second, .val (.int vo)] [(.int vo)]))
  refine OGo.on (fun t k => XS.iloadN X0.here hx rfl (hb hby d1_7) rfl k) ?_
  show OGo p e below s _ _ _ (s₁.setTop (mkF m 8 #[.val (.ref ra), .val (.int vo), .val (.long (0 : Int64)), .second, .val (.int vo)] [(.int vo), (.int vo)]))
  refine OGo.on (fun t k => XS.bipush X0.here hx rfl (hb hby d1_8) k) ?_
  show OGo p e below s _ _ _ (s₁.setTop (mkF m 10 #[.val (.ref ra), .val (.int vo), .val (.long (0 : Int64)), .second, .val (.int vo)] [(.int (8 : Int32)), (.int vo), (.int vo)]))
  refine OGo.on (fun t k => XS.iadd X0.here hx rfl (hb hby d1_10) rfl k) ?_
  show OGo p e below s _ _ _ (s₁.setTop (mkF m 11 #[.val (.ref ra), .val (.int vo), .val (.long (0 : Int64)), .second, .val (.int vo)] [(.int (vo + (8 : Int32))), (.int vo)]))
  refine OGo.on (fun t k => XS.icmpNo X0.here hx rfl (hb hby d1_11) rfl (tlt (own_x (P := fun o => (o < (o + (8 : Int32)))) ho (by decide))).2.1 k) ?_
  show OGo p e below s _ _ _ (s₁.setTop (mkF m 14 #[.val (.ref ra), .val (.int vo), .val (.long (0 : Int64)), .second, .val (.int vo)] []))
  refine OGo.on (fun t k => XS.lloadN X0.here hx rfl (hb hby d1_14) rfl k) ?_
  show OGo p e below s _ _ _ (s₁.setTop (mkF m 15 #[.val (.ref ra), .val (.int vo), .val (.long (0 : Int64)), .second, .val (.int vo)] [(.long (0 : Int64))]))
  refine OGo.on (fun t k => XS.bipush X0.here hx rfl (hb hby d1_15) k) ?_
  show OGo p e below s _ _ _ (s₁.setTop (mkF m 17 #[.val (.ref ra), .val (.int vo), .val (.long (0 : Int64)), .second, .val (.int vo)] [(.int (8 : Int32)), (.long (0 : Int64))]))
  refine OGo.on (fun t k => XS.lshl X0.here hx rfl (hb hby d1_17) rfl k) ?_
  show OGo p e below s _ _ _ (s₁.setTop (mkF m 18 #[.val (.ref ra), .val (.int vo), .val (.long (0 : Int64)), .second, .val (.int vo)] [(.long (0 : Int64))]))
  refine OGo.on (fun t k => XS.aloadN X0.here hx rfl (hb hby d1_18) rfl rfl k) ?_
  show OGo p e below s _ _ _ (s₁.setTop (mkF m 19 #[.val (.ref ra), .val (.int vo), .val (.long (0 : Int64)), .second, .val (.int vo)] [(.ref ra), (.long (0 : Int64))]))
  refine OGo.on (fun t k => XS.iload X0.here hx rfl (hb hby d1_19) rfl k) ?_
  show OGo p e below s _ _ _ (s₁.setTop (mkF m 21 #[.val (.ref ra), .val (.int vo), .val (.long (0 : Int64)), .second, .val (.int vo)] [(.int vo), (.ref ra), (.long (0 : Int64))]))
  refine OGo.on (fun t k => OAL.baB X0 hx hZ e0 A0 q0 (hb hby d1_21) k) ?_
  show OGo p e below s _ _ _ (s₁.setTop (mkF m 22 #[.val (.ref ra), .val (.int vo), .val (.long (0 : Int64)), .second, .val (.int vo)] [(.int w0), (.long (0 : Int64))]))
  refine OGo.on (fun t k => XS.i2l X0.here hx rfl (hb hby d1_22) rfl k) ?_
  show OGo p e below s _ _ _ (s₁.setTop (mkF m 23 #[.val (.ref ra), .val (.int vo), .val (.long (0 : Int64)), .second, .val (.int vo)] [(.long (w0.toInt64)), (.long (0 : Int64))]))
  refine OGo.on (fun t k => X0.ldc2J hx hown (mvT hZ (hw _ (List.mem_of_getElem? (i := 5) rfl))) (g := (mkF m 23 #[.val (.ref ra), .val (.int vo), .val (.long (0 : Int64)), .second, .val (.int vo)] [(.long (w0.toInt64)), (.long (0 : Int64))])) rfl (hb hby d1_23) k) ?_
  show OGo p e below s _ _ _ (s₁.setTop (mkF m 26 #[.val (.ref ra), .val (.int vo), .val (.long (0 : Int64)), .second, .val (.int vo)] [(.long (255 : Int64)), (.long (w0.toInt64)), (.long (0 : Int64))]))
  refine OGo.on (fun t k => XS.land X0.here hx rfl (hb hby d1_26) rfl k) ?_
  show OGo p e below s _ _ _ (s₁.setTop (mkF m 27 #[.val (.ref ra), .val (.int vo), .val (.long (0 : Int64)), .second, .val (.int vo)] [(.long ((w0.toInt64) &&& (255 : Int64))), (.long (0 : Int64))]))
  refine OGo.on (fun t k => XS.lor X0.here hx rfl (hb hby d1_27) rfl k) ?_
  show OGo p e below s _ _ _ (s₁.setTop (mkF m 28 #[.val (.ref ra), .val (.int vo), .val (.long (0 : Int64)), .second, .val (.int vo)] [(.long ((0 : Int64) ||| ((w0.toInt64) &&& (255 : Int64))))]))
  refine OGo.on (fun t k => XS.lstoreN X0.here hx rfl (hb hby d1_28) rfl (l' := #[.val (.ref ra), .val (.int vo), .val (.long ((0 : Int64) ||| ((w0.toInt64) &&& (255 : Int64)))), .second, .val (.int vo)]) rfl k) ?_
  show OGo p e below s _ _ _ (s₁.setTop (mkF m 29 #[.val (.ref ra), .val (.int vo), .val (.long ((0 : Int64) ||| ((w0.toInt64) &&& (255 : Int64)))), .second, .val (.int vo)] []))
  generalize hv_r1 : ((0 : Int64) ||| ((w0.toInt64) &&& (255 : Int64))) = r1
  show OGo p e below s _ _ _ (s₁.setTop (mkF m 29 #[.val (.ref ra), .val (.int vo), .val (.long r1), .second, .val (.int vo)] []))
  refine OGo.on (fun t k => XS.iinc X0.here hx rfl (hb hby d1_29) rfl (l' := #[.val (.ref ra), .val (.int vo), .val (.long r1), .second, .val (.int (vo + (1 : Int32)))]) rfl k) ?_
  show OGo p e below s _ _ _ (s₁.setTop (mkF m 32 #[.val (.ref ra), .val (.int vo), .val (.long r1), .second, .val (.int (vo + (1 : Int32)))] []))
  refine OGo.on (fun t k => XS.goto X0.here hx rfl (pc0 := 32) (pc' := 5) rfl (hb hby d1_32) (by decide) (by decide) k) ?_
  show OGo p e below s _ _ _ (s₁.setTop (mkF m 5 #[.val (.ref ra), .val (.int vo), .val (.long r1), .second, .val (.int (vo + (1 : Int32)))] []))
  refine OGo.on (fun t k => XS.iload X0.here hx rfl (hb hby d1_5) rfl k) ?_
  show OGo p e below s _ _ _ (s₁.setTop (mkF m 7 #[.val (.ref ra), .val (.int vo), .val (.long r1), .second, .val (.int (vo + (1 : Int32)))] [(.int (vo + (1 : Int32)))]))
  refine OGo.on (fun t k => XS.iloadN X0.here hx rfl (hb hby d1_7) rfl k) ?_
  show OGo p e below s _ _ _ (s₁.setTop (mkF m 8 #[.val (.ref ra), .val (.int vo), .val (.long r1), .second, .val (.int (vo + (1 : Int32)))] [(.int vo), (.int (vo + (1 : Int32)))]))
  refine OGo.on (fun t k => XS.bipush X0.here hx rfl (hb hby d1_8) k) ?_
  show OGo p e below s _ _ _ (s₁.setTop (mkF m 10 #[.val (.ref ra), .val (.int vo), .val (.long r1), .second, .val (.int (vo + (1 : Int32)))] [(.int (8 : Int32)), (.int vo), (.int (vo + (1 : Int32)))]))
  refine OGo.on (fun t k => XS.iadd X0.here hx rfl (hb hby d1_10) rfl k) ?_
  show OGo p e below s _ _ _ (s₁.setTop (mkF m 11 #[.val (.ref ra), .val (.int vo), .val (.long r1), .second, .val (.int (vo + (1 : Int32)))] [(.int (vo + (8 : Int32))), (.int (vo + (1 : Int32)))]))
  refine OGo.on (fun t k => XS.icmpNo X0.here hx rfl (hb hby d1_11) rfl (tlt (own_x (P := fun o => ((o + (1 : Int32)) < (o + (8 : Int32)))) ho (by decide))).2.1 k) ?_
  show OGo p e below s _ _ _ (s₁.setTop (mkF m 14 #[.val (.ref ra), .val (.int vo), .val (.long r1), .second, .val (.int (vo + (1 : Int32)))] []))
  refine OGo.on (fun t k => XS.lloadN X0.here hx rfl (hb hby d1_14) rfl k) ?_
  show OGo p e below s _ _ _ (s₁.setTop (mkF m 15 #[.val (.ref ra), .val (.int vo), .val (.long r1), .second, .val (.int (vo + (1 : Int32)))] [(.long r1)]))
  refine OGo.on (fun t k => XS.bipush X0.here hx rfl (hb hby d1_15) k) ?_
  show OGo p e below s _ _ _ (s₁.setTop (mkF m 17 #[.val (.ref ra), .val (.int vo), .val (.long r1), .second, .val (.int (vo + (1 : Int32)))] [(.int (8 : Int32)), (.long r1)]))
  refine OGo.on (fun t k => XS.lshl X0.here hx rfl (hb hby d1_17) rfl k) ?_
  show OGo p e below s _ _ _ (s₁.setTop (mkF m 18 #[.val (.ref ra), .val (.int vo), .val (.long r1), .second, .val (.int (vo + (1 : Int32)))] [(.long (r1 <<< ((8 : Int32) &&& 0x3f).toInt64))]))
  refine OGo.on (fun t k => XS.aloadN X0.here hx rfl (hb hby d1_18) rfl rfl k) ?_
  show OGo p e below s _ _ _ (s₁.setTop (mkF m 19 #[.val (.ref ra), .val (.int vo), .val (.long r1), .second, .val (.int (vo + (1 : Int32)))] [(.ref ra), (.long (r1 <<< ((8 : Int32) &&& 0x3f).toInt64))]))
  refine OGo.on (fun t k => XS.iload X0.here hx rfl (hb hby d1_19) rfl k) ?_
  show OGo p e below s _ _ _ (s₁.setTop (mkF m 21 #[.val (.ref ra), .val (.int vo), .val (.long r1), .second, .val (.int (vo + (1 : Int32)))] [(.int (vo + (1 : Int32))), (.ref ra), (.long (r1 <<< ((8 : Int32) &&& 0x3f).toInt64))]))
  refine OGo.on (fun t k => OAL.baB X0 hx hZ e0 A0 q1 (hb hby d1_21) k) ?_
  show OGo p e below s _ _ _ (s₁.setTop (mkF m 22 #[.val (.ref ra), .val (.int vo), .val (.long r1), .second, .val (.int (vo + (1 : Int32)))] [(.int w1), (.long (r1 <<< ((8 : Int32) &&& 0x3f).toInt64))]))
  refine OGo.on (fun t k => XS.i2l X0.here hx rfl (hb hby d1_22) rfl k) ?_
  show OGo p e below s _ _ _ (s₁.setTop (mkF m 23 #[.val (.ref ra), .val (.int vo), .val (.long r1), .second, .val (.int (vo + (1 : Int32)))] [(.long (w1.toInt64)), (.long (r1 <<< ((8 : Int32) &&& 0x3f).toInt64))]))
  refine OGo.on (fun t k => X0.ldc2J hx hown (mvT hZ (hw _ (List.mem_of_getElem? (i := 5) rfl))) (g := (mkF m 23 #[.val (.ref ra), .val (.int vo), .val (.long r1), .second, .val (.int (vo + (1 : Int32)))] [(.long (w1.toInt64)), (.long (r1 <<< ((8 : Int32) &&& 0x3f).toInt64))])) rfl (hb hby d1_23) k) ?_
  show OGo p e below s _ _ _ (s₁.setTop (mkF m 26 #[.val (.ref ra), .val (.int vo), .val (.long r1), .second, .val (.int (vo + (1 : Int32)))] [(.long (255 : Int64)), (.long (w1.toInt64)), (.long (r1 <<< ((8 : Int32) &&& 0x3f).toInt64))]))
  refine OGo.on (fun t k => XS.land X0.here hx rfl (hb hby d1_26) rfl k) ?_
  show OGo p e below s _ _ _ (s₁.setTop (mkF m 27 #[.val (.ref ra), .val (.int vo), .val (.long r1), .second, .val (.int (vo + (1 : Int32)))] [(.long ((w1.toInt64) &&& (255 : Int64))), (.long (r1 <<< ((8 : Int32) &&& 0x3f).toInt64))]))
  refine OGo.on (fun t k => XS.lor X0.here hx rfl (hb hby d1_27) rfl k) ?_
  show OGo p e below s _ _ _ (s₁.setTop (mkF m 28 #[.val (.ref ra), .val (.int vo), .val (.long r1), .second, .val (.int (vo + (1 : Int32)))] [(.long ((r1 <<< ((8 : Int32) &&& 0x3f).toInt64) ||| ((w1.toInt64) &&& (255 : Int64))))]))
  refine OGo.on (fun t k => XS.lstoreN X0.here hx rfl (hb hby d1_28) rfl (l' := #[.val (.ref ra), .val (.int vo), .val (.long ((r1 <<< ((8 : Int32) &&& 0x3f).toInt64) ||| ((w1.toInt64) &&& (255 : Int64)))), .second, .val (.int (vo + (1 : Int32)))]) rfl k) ?_
  show OGo p e below s _ _ _ (s₁.setTop (mkF m 29 #[.val (.ref ra), .val (.int vo), .val (.long ((r1 <<< ((8 : Int32) &&& 0x3f).toInt64) ||| ((w1.toInt64) &&& (255 : Int64)))), .second, .val (.int (vo + (1 : Int32)))] []))
  generalize hv_r2 : ((r1 <<< ((8 : Int32) &&& 0x3f).toInt64) ||| ((w1.toInt64) &&& (255 : Int64))) = r2
  show OGo p e below s _ _ _ (s₁.setTop (mkF m 29 #[.val (.ref ra), .val (.int vo), .val (.long r2), .second, .val (.int (vo + (1 : Int32)))] []))
  refine OGo.on (fun t k => XS.iinc X0.here hx rfl (hb hby d1_29) rfl (l' := #[.val (.ref ra), .val (.int vo), .val (.long r2), .second, .val (.int ((vo + (1 : Int32)) + (1 : Int32)))]) rfl k) ?_
  show OGo p e below s _ _ _ (s₁.setTop (mkF m 32 #[.val (.ref ra), .val (.int vo), .val (.long r2), .second, .val (.int ((vo + (1 : Int32)) + (1 : Int32)))] []))
  refine OGo.on (fun t k => XS.goto X0.here hx rfl (pc0 := 32) (pc' := 5) rfl (hb hby d1_32) (by decide) (by decide) k) ?_
  show OGo p e below s _ _ _ (s₁.setTop (mkF m 5 #[.val (.ref ra), .val (.int vo), .val (.long r2), .second, .val (.int ((vo + (1 : Int32)) + (1 : Int32)))] []))
  refine OGo.on (fun t k => XS.iload X0.here hx rfl (hb hby d1_5) rfl k) ?_
  show OGo p e below s _ _ _ (s₁.setTop (mkF m 7 #[.val (.ref ra), .val (.int vo), .val (.long r2), .second, .val (.int ((vo + (1 : Int32)) + (1 : Int32)))] [(.int ((vo + (1 : Int32)) + (1 : Int32)))]))
  refine OGo.on (fun t k => XS.iloadN X0.here hx rfl (hb hby d1_7) rfl k) ?_
  show OGo p e below s _ _ _ (s₁.setTop (mkF m 8 #[.val (.ref ra), .val (.int vo), .val (.long r2), .second, .val (.int ((vo + (1 : Int32)) + (1 : Int32)))] [(.int vo), (.int ((vo + (1 : Int32)) + (1 : Int32)))]))
  refine OGo.on (fun t k => XS.bipush X0.here hx rfl (hb hby d1_8) k) ?_
  show OGo p e below s _ _ _ (s₁.setTop (mkF m 10 #[.val (.ref ra), .val (.int vo), .val (.long r2), .second, .val (.int ((vo + (1 : Int32)) + (1 : Int32)))] [(.int (8 : Int32)), (.int vo), (.int ((vo + (1 : Int32)) + (1 : Int32)))]))
  refine OGo.on (fun t k => XS.iadd X0.here hx rfl (hb hby d1_10) rfl k) ?_
  show OGo p e below s _ _ _ (s₁.setTop (mkF m 11 #[.val (.ref ra), .val (.int vo), .val (.long r2), .second, .val (.int ((vo + (1 : Int32)) + (1 : Int32)))] [(.int (vo + (8 : Int32))), (.int ((vo + (1 : Int32)) + (1 : Int32)))]))
  refine OGo.on (fun t k => XS.icmpNo X0.here hx rfl (hb hby d1_11) rfl (tlt (own_x (P := fun o => (((o + (1 : Int32)) + (1 : Int32)) < (o + (8 : Int32)))) ho (by decide))).2.1 k) ?_
  show OGo p e below s _ _ _ (s₁.setTop (mkF m 14 #[.val (.ref ra), .val (.int vo), .val (.long r2), .second, .val (.int ((vo + (1 : Int32)) + (1 : Int32)))] []))
  refine OGo.on (fun t k => XS.lloadN X0.here hx rfl (hb hby d1_14) rfl k) ?_
  show OGo p e below s _ _ _ (s₁.setTop (mkF m 15 #[.val (.ref ra), .val (.int vo), .val (.long r2), .second, .val (.int ((vo + (1 : Int32)) + (1 : Int32)))] [(.long r2)]))
  refine OGo.on (fun t k => XS.bipush X0.here hx rfl (hb hby d1_15) k) ?_
  show OGo p e below s _ _ _ (s₁.setTop (mkF m 17 #[.val (.ref ra), .val (.int vo), .val (.long r2), .second, .val (.int ((vo + (1 : Int32)) + (1 : Int32)))] [(.int (8 : Int32)), (.long r2)]))
  refine OGo.on (fun t k => XS.lshl X0.here hx rfl (hb hby d1_17) rfl k) ?_
  show OGo p e below s _ _ _ (s₁.setTop (mkF m 18 #[.val (.ref ra), .val (.int vo), .val (.long r2), .second, .val (.int ((vo + (1 : Int32)) + (1 : Int32)))] [(.long (r2 <<< ((8 : Int32) &&& 0x3f).toInt64))]))
  refine OGo.on (fun t k => XS.aloadN X0.here hx rfl (hb hby d1_18) rfl rfl k) ?_
  show OGo p e below s _ _ _ (s₁.setTop (mkF m 19 #[.val (.ref ra), .val (.int vo), .val (.long r2), .second, .val (.int ((vo + (1 : Int32)) + (1 : Int32)))] [(.ref ra), (.long (r2 <<< ((8 : Int32) &&& 0x3f).toInt64))]))
  refine OGo.on (fun t k => XS.iload X0.here hx rfl (hb hby d1_19) rfl k) ?_
  show OGo p e below s _ _ _ (s₁.setTop (mkF m 21 #[.val (.ref ra), .val (.int vo), .val (.long r2), .second, .val (.int ((vo + (1 : Int32)) + (1 : Int32)))] [(.int ((vo + (1 : Int32)) + (1 : Int32))), (.ref ra), (.long (r2 <<< ((8 : Int32) &&& 0x3f).toInt64))]))
  refine OGo.on (fun t k => OAL.baB X0 hx hZ e0 A0 q2 (hb hby d1_21) k) ?_
  show OGo p e below s _ _ _ (s₁.setTop (mkF m 22 #[.val (.ref ra), .val (.int vo), .val (.long r2), .second, .val (.int ((vo + (1 : Int32)) + (1 : Int32)))] [(.int w2), (.long (r2 <<< ((8 : Int32) &&& 0x3f).toInt64))]))
  refine OGo.on (fun t k => XS.i2l X0.here hx rfl (hb hby d1_22) rfl k) ?_
  show OGo p e below s _ _ _ (s₁.setTop (mkF m 23 #[.val (.ref ra), .val (.int vo), .val (.long r2), .second, .val (.int ((vo + (1 : Int32)) + (1 : Int32)))] [(.long (w2.toInt64)), (.long (r2 <<< ((8 : Int32) &&& 0x3f).toInt64))]))
  refine OGo.on (fun t k => X0.ldc2J hx hown (mvT hZ (hw _ (List.mem_of_getElem? (i := 5) rfl))) (g := (mkF m 23 #[.val (.ref ra), .val (.int vo), .val (.long r2), .second, .val (.int ((vo + (1 : Int32)) + (1 : Int32)))] [(.long (w2.toInt64)), (.long (r2 <<< ((8 : Int32) &&& 0x3f).toInt64))])) rfl (hb hby d1_23) k) ?_
  show OGo p e below s _ _ _ (s₁.setTop (mkF m 26 #[.val (.ref ra), .val (.int vo), .val (.long r2), .second, .val (.int ((vo + (1 : Int32)) + (1 : Int32)))] [(.long (255 : Int64)), (.long (w2.toInt64)), (.long (r2 <<< ((8 : Int32) &&& 0x3f).toInt64))]))
  refine OGo.on (fun t k => XS.land X0.here hx rfl (hb hby d1_26) rfl k) ?_
  show OGo p e below s _ _ _ (s₁.setTop (mkF m 27 #[.val (.ref ra), .val (.int vo), .val (.long r2), .second, .val (.int ((vo + (1 : Int32)) + (1 : Int32)))] [(.long ((w2.toInt64) &&& (255 : Int64))), (.long (r2 <<< ((8 : Int32) &&& 0x3f).toInt64))]))
  refine OGo.on (fun t k => XS.lor X0.here hx rfl (hb hby d1_27) rfl k) ?_
  show OGo p e below s _ _ _ (s₁.setTop (mkF m 28 #[.val (.ref ra), .val (.int vo), .val (.long r2), .second, .val (.int ((vo + (1 : Int32)) + (1 : Int32)))] [(.long ((r2 <<< ((8 : Int32) &&& 0x3f).toInt64) ||| ((w2.toInt64) &&& (255 : Int64))))]))
  refine OGo.on (fun t k => XS.lstoreN X0.here hx rfl (hb hby d1_28) rfl (l' := #[.val (.ref ra), .val (.int vo), .val (.long ((r2 <<< ((8 : Int32) &&& 0x3f).toInt64) ||| ((w2.toInt64) &&& (255 : Int64)))), .second, .val (.int ((vo + (1 : Int32)) + (1 : Int32)))]) rfl k) ?_
  show OGo p e below s _ _ _ (s₁.setTop (mkF m 29 #[.val (.ref ra), .val (.int vo), .val (.long ((r2 <<< ((8 : Int32) &&& 0x3f).toInt64) ||| ((w2.toInt64) &&& (255 : Int64)))), .second, .val (.int ((vo + (1 : Int32)) + (1 : Int32)))] []))
  generalize hv_r3 : ((r2 <<< ((8 : Int32) &&& 0x3f).toInt64) ||| ((w2.toInt64) &&& (255 : Int64))) = r3
  show OGo p e below s _ _ _ (s₁.setTop (mkF m 29 #[.val (.ref ra), .val (.int vo), .val (.long r3), .second, .val (.int ((vo + (1 : Int32)) + (1 : Int32)))] []))
  refine OGo.on (fun t k => XS.iinc X0.here hx rfl (hb hby d1_29) rfl (l' := #[.val (.ref ra), .val (.int vo), .val (.long r3), .second, .val (.int (((vo + (1 : Int32)) + (1 : Int32)) + (1 : Int32)))]) rfl k) ?_
  show OGo p e below s _ _ _ (s₁.setTop (mkF m 32 #[.val (.ref ra), .val (.int vo), .val (.long r3), .second, .val (.int (((vo + (1 : Int32)) + (1 : Int32)) + (1 : Int32)))] []))
  refine OGo.on (fun t k => XS.goto X0.here hx rfl (pc0 := 32) (pc' := 5) rfl (hb hby d1_32) (by decide) (by decide) k) ?_
  show OGo p e below s _ _ _ (s₁.setTop (mkF m 5 #[.val (.ref ra), .val (.int vo), .val (.long r3), .second, .val (.int (((vo + (1 : Int32)) + (1 : Int32)) + (1 : Int32)))] []))
  refine OGo.on (fun t k => XS.iload X0.here hx rfl (hb hby d1_5) rfl k) ?_
  show OGo p e below s _ _ _ (s₁.setTop (mkF m 7 #[.val (.ref ra), .val (.int vo), .val (.long r3), .second, .val (.int (((vo + (1 : Int32)) + (1 : Int32)) + (1 : Int32)))] [(.int (((vo + (1 : Int32)) + (1 : Int32)) + (1 : Int32)))]))
  refine OGo.on (fun t k => XS.iloadN X0.here hx rfl (hb hby d1_7) rfl k) ?_
  show OGo p e below s _ _ _ (s₁.setTop (mkF m 8 #[.val (.ref ra), .val (.int vo), .val (.long r3), .second, .val (.int (((vo + (1 : Int32)) + (1 : Int32)) + (1 : Int32)))] [(.int vo), (.int (((vo + (1 : Int32)) + (1 : Int32)) + (1 : Int32)))]))
  refine OGo.on (fun t k => XS.bipush X0.here hx rfl (hb hby d1_8) k) ?_
  show OGo p e below s _ _ _ (s₁.setTop (mkF m 10 #[.val (.ref ra), .val (.int vo), .val (.long r3), .second, .val (.int (((vo + (1 : Int32)) + (1 : Int32)) + (1 : Int32)))] [(.int (8 : Int32)), (.int vo), (.int (((vo + (1 : Int32)) + (1 : Int32)) + (1 : Int32)))]))
  refine OGo.on (fun t k => XS.iadd X0.here hx rfl (hb hby d1_10) rfl k) ?_
  show OGo p e below s _ _ _ (s₁.setTop (mkF m 11 #[.val (.ref ra), .val (.int vo), .val (.long r3), .second, .val (.int (((vo + (1 : Int32)) + (1 : Int32)) + (1 : Int32)))] [(.int (vo + (8 : Int32))), (.int (((vo + (1 : Int32)) + (1 : Int32)) + (1 : Int32)))]))
  refine OGo.on (fun t k => XS.icmpNo X0.here hx rfl (hb hby d1_11) rfl (tlt (own_x (P := fun o => ((((o + (1 : Int32)) + (1 : Int32)) + (1 : Int32)) < (o + (8 : Int32)))) ho (by decide))).2.1 k) ?_
  show OGo p e below s _ _ _ (s₁.setTop (mkF m 14 #[.val (.ref ra), .val (.int vo), .val (.long r3), .second, .val (.int (((vo + (1 : Int32)) + (1 : Int32)) + (1 : Int32)))] []))
  refine OGo.on (fun t k => XS.lloadN X0.here hx rfl (hb hby d1_14) rfl k) ?_
  show OGo p e below s _ _ _ (s₁.setTop (mkF m 15 #[.val (.ref ra), .val (.int vo), .val (.long r3), .second, .val (.int (((vo + (1 : Int32)) + (1 : Int32)) + (1 : Int32)))] [(.long r3)]))
  refine OGo.on (fun t k => XS.bipush X0.here hx rfl (hb hby d1_15) k) ?_
  show OGo p e below s _ _ _ (s₁.setTop (mkF m 17 #[.val (.ref ra), .val (.int vo), .val (.long r3), .second, .val (.int (((vo + (1 : Int32)) + (1 : Int32)) + (1 : Int32)))] [(.int (8 : Int32)), (.long r3)]))
  refine OGo.on (fun t k => XS.lshl X0.here hx rfl (hb hby d1_17) rfl k) ?_
  show OGo p e below s _ _ _ (s₁.setTop (mkF m 18 #[.val (.ref ra), .val (.int vo), .val (.long r3), .second, .val (.int (((vo + (1 : Int32)) + (1 : Int32)) + (1 : Int32)))] [(.long (r3 <<< ((8 : Int32) &&& 0x3f).toInt64))]))
  refine OGo.on (fun t k => XS.aloadN X0.here hx rfl (hb hby d1_18) rfl rfl k) ?_
  show OGo p e below s _ _ _ (s₁.setTop (mkF m 19 #[.val (.ref ra), .val (.int vo), .val (.long r3), .second, .val (.int (((vo + (1 : Int32)) + (1 : Int32)) + (1 : Int32)))] [(.ref ra), (.long (r3 <<< ((8 : Int32) &&& 0x3f).toInt64))]))
  refine OGo.on (fun t k => XS.iload X0.here hx rfl (hb hby d1_19) rfl k) ?_
  show OGo p e below s _ _ _ (s₁.setTop (mkF m 21 #[.val (.ref ra), .val (.int vo), .val (.long r3), .second, .val (.int (((vo + (1 : Int32)) + (1 : Int32)) + (1 : Int32)))] [(.int (((vo + (1 : Int32)) + (1 : Int32)) + (1 : Int32))), (.ref ra), (.long (r3 <<< ((8 : Int32) &&& 0x3f).toInt64))]))
  refine OGo.on (fun t k => OAL.baB X0 hx hZ e0 A0 q3 (hb hby d1_21) k) ?_
  show OGo p e below s _ _ _ (s₁.setTop (mkF m 22 #[.val (.ref ra), .val (.int vo), .val (.long r3), .second, .val (.int (((vo + (1 : Int32)) + (1 : Int32)) + (1 : Int32)))] [(.int w3), (.long (r3 <<< ((8 : Int32) &&& 0x3f).toInt64))]))
  refine OGo.on (fun t k => XS.i2l X0.here hx rfl (hb hby d1_22) rfl k) ?_
  show OGo p e below s _ _ _ (s₁.setTop (mkF m 23 #[.val (.ref ra), .val (.int vo), .val (.long r3), .second, .val (.int (((vo + (1 : Int32)) + (1 : Int32)) + (1 : Int32)))] [(.long (w3.toInt64)), (.long (r3 <<< ((8 : Int32) &&& 0x3f).toInt64))]))
  refine OGo.on (fun t k => X0.ldc2J hx hown (mvT hZ (hw _ (List.mem_of_getElem? (i := 5) rfl))) (g := (mkF m 23 #[.val (.ref ra), .val (.int vo), .val (.long r3), .second, .val (.int (((vo + (1 : Int32)) + (1 : Int32)) + (1 : Int32)))] [(.long (w3.toInt64)), (.long (r3 <<< ((8 : Int32) &&& 0x3f).toInt64))])) rfl (hb hby d1_23) k) ?_
  show OGo p e below s _ _ _ (s₁.setTop (mkF m 26 #[.val (.ref ra), .val (.int vo), .val (.long r3), .second, .val (.int (((vo + (1 : Int32)) + (1 : Int32)) + (1 : Int32)))] [(.long (255 : Int64)), (.long (w3.toInt64)), (.long (r3 <<< ((8 : Int32) &&& 0x3f).toInt64))]))
  refine OGo.on (fun t k => XS.land X0.here hx rfl (hb hby d1_26) rfl k) ?_
  show OGo p e below s _ _ _ (s₁.setTop (mkF m 27 #[.val (.ref ra), .val (.int vo), .val (.long r3), .second, .val (.int (((vo + (1 : Int32)) + (1 : Int32)) + (1 : Int32)))] [(.long ((w3.toInt64) &&& (255 : Int64))), (.long (r3 <<< ((8 : Int32) &&& 0x3f).toInt64))]))
  refine OGo.on (fun t k => XS.lor X0.here hx rfl (hb hby d1_27) rfl k) ?_
  show OGo p e below s _ _ _ (s₁.setTop (mkF m 28 #[.val (.ref ra), .val (.int vo), .val (.long r3), .second, .val (.int (((vo + (1 : Int32)) + (1 : Int32)) + (1 : Int32)))] [(.long ((r3 <<< ((8 : Int32) &&& 0x3f).toInt64) ||| ((w3.toInt64) &&& (255 : Int64))))]))
  refine OGo.on (fun t k => XS.lstoreN X0.here hx rfl (hb hby d1_28) rfl (l' := #[.val (.ref ra), .val (.int vo), .val (.long ((r3 <<< ((8 : Int32) &&& 0x3f).toInt64) ||| ((w3.toInt64) &&& (255 : Int64)))), .second, .val (.int (((vo + (1 : Int32)) + (1 : Int32)) + (1 : Int32)))]) rfl k) ?_
  show OGo p e below s _ _ _ (s₁.setTop (mkF m 29 #[.val (.ref ra), .val (.int vo), .val (.long ((r3 <<< ((8 : Int32) &&& 0x3f).toInt64) ||| ((w3.toInt64) &&& (255 : Int64)))), .second, .val (.int (((vo + (1 : Int32)) + (1 : Int32)) + (1 : Int32)))] []))
  generalize hv_r4 : ((r3 <<< ((8 : Int32) &&& 0x3f).toInt64) ||| ((w3.toInt64) &&& (255 : Int64))) = r4
  show OGo p e below s _ _ _ (s₁.setTop (mkF m 29 #[.val (.ref ra), .val (.int vo), .val (.long r4), .second, .val (.int (((vo + (1 : Int32)) + (1 : Int32)) + (1 : Int32)))] []))
  refine OGo.on (fun t k => XS.iinc X0.here hx rfl (hb hby d1_29) rfl (l' := #[.val (.ref ra), .val (.int vo), .val (.long r4), .second, .val (.int ((((vo + (1 : Int32)) + (1 : Int32)) + (1 : Int32)) + (1 : Int32)))]) rfl k) ?_
  show OGo p e below s _ _ _ (s₁.setTop (mkF m 32 #[.val (.ref ra), .val (.int vo), .val (.long r4), .second, .val (.int ((((vo + (1 : Int32)) + (1 : Int32)) + (1 : Int32)) + (1 : Int32)))] []))
  refine OGo.on (fun t k => XS.goto X0.here hx rfl (pc0 := 32) (pc' := 5) rfl (hb hby d1_32) (by decide) (by decide) k) ?_
  show OGo p e below s _ _ _ (s₁.setTop (mkF m 5 #[.val (.ref ra), .val (.int vo), .val (.long r4), .second, .val (.int ((((vo + (1 : Int32)) + (1 : Int32)) + (1 : Int32)) + (1 : Int32)))] []))
  refine OGo.on (fun t k => XS.iload X0.here hx rfl (hb hby d1_5) rfl k) ?_
  show OGo p e below s _ _ _ (s₁.setTop (mkF m 7 #[.val (.ref ra), .val (.int vo), .val (.long r4), .second, .val (.int ((((vo + (1 : Int32)) + (1 : Int32)) + (1 : Int32)) + (1 : Int32)))] [(.int ((((vo + (1 : Int32)) + (1 : Int32)) + (1 : Int32)) + (1 : Int32)))]))
  refine OGo.on (fun t k => XS.iloadN X0.here hx rfl (hb hby d1_7) rfl k) ?_
  show OGo p e below s _ _ _ (s₁.setTop (mkF m 8 #[.val (.ref ra), .val (.int vo), .val (.long r4), .second, .val (.int ((((vo + (1 : Int32)) + (1 : Int32)) + (1 : Int32)) + (1 : Int32)))] [(.int vo), (.int ((((vo + (1 : Int32)) + (1 : Int32)) + (1 : Int32)) + (1 : Int32)))]))
  refine OGo.on (fun t k => XS.bipush X0.here hx rfl (hb hby d1_8) k) ?_
  show OGo p e below s _ _ _ (s₁.setTop (mkF m 10 #[.val (.ref ra), .val (.int vo), .val (.long r4), .second, .val (.int ((((vo + (1 : Int32)) + (1 : Int32)) + (1 : Int32)) + (1 : Int32)))] [(.int (8 : Int32)), (.int vo), (.int ((((vo + (1 : Int32)) + (1 : Int32)) + (1 : Int32)) + (1 : Int32)))]))
  refine OGo.on (fun t k => XS.iadd X0.here hx rfl (hb hby d1_10) rfl k) ?_
  show OGo p e below s _ _ _ (s₁.setTop (mkF m 11 #[.val (.ref ra), .val (.int vo), .val (.long r4), .second, .val (.int ((((vo + (1 : Int32)) + (1 : Int32)) + (1 : Int32)) + (1 : Int32)))] [(.int (vo + (8 : Int32))), (.int ((((vo + (1 : Int32)) + (1 : Int32)) + (1 : Int32)) + (1 : Int32)))]))
  refine OGo.on (fun t k => XS.icmpNo X0.here hx rfl (hb hby d1_11) rfl (tlt (own_x (P := fun o => (((((o + (1 : Int32)) + (1 : Int32)) + (1 : Int32)) + (1 : Int32)) < (o + (8 : Int32)))) ho (by decide))).2.1 k) ?_
  show OGo p e below s _ _ _ (s₁.setTop (mkF m 14 #[.val (.ref ra), .val (.int vo), .val (.long r4), .second, .val (.int ((((vo + (1 : Int32)) + (1 : Int32)) + (1 : Int32)) + (1 : Int32)))] []))
  refine OGo.on (fun t k => XS.lloadN X0.here hx rfl (hb hby d1_14) rfl k) ?_
  show OGo p e below s _ _ _ (s₁.setTop (mkF m 15 #[.val (.ref ra), .val (.int vo), .val (.long r4), .second, .val (.int ((((vo + (1 : Int32)) + (1 : Int32)) + (1 : Int32)) + (1 : Int32)))] [(.long r4)]))
  refine OGo.on (fun t k => XS.bipush X0.here hx rfl (hb hby d1_15) k) ?_
  show OGo p e below s _ _ _ (s₁.setTop (mkF m 17 #[.val (.ref ra), .val (.int vo), .val (.long r4), .second, .val (.int ((((vo + (1 : Int32)) + (1 : Int32)) + (1 : Int32)) + (1 : Int32)))] [(.int (8 : Int32)), (.long r4)]))
  refine OGo.on (fun t k => XS.lshl X0.here hx rfl (hb hby d1_17) rfl k) ?_
  show OGo p e below s _ _ _ (s₁.setTop (mkF m 18 #[.val (.ref ra), .val (.int vo), .val (.long r4), .second, .val (.int ((((vo + (1 : Int32)) + (1 : Int32)) + (1 : Int32)) + (1 : Int32)))] [(.long (r4 <<< ((8 : Int32) &&& 0x3f).toInt64))]))
  refine OGo.on (fun t k => XS.aloadN X0.here hx rfl (hb hby d1_18) rfl rfl k) ?_
  show OGo p e below s _ _ _ (s₁.setTop (mkF m 19 #[.val (.ref ra), .val (.int vo), .val (.long r4), .second, .val (.int ((((vo + (1 : Int32)) + (1 : Int32)) + (1 : Int32)) + (1 : Int32)))] [(.ref ra), (.long (r4 <<< ((8 : Int32) &&& 0x3f).toInt64))]))
  refine OGo.on (fun t k => XS.iload X0.here hx rfl (hb hby d1_19) rfl k) ?_
  show OGo p e below s _ _ _ (s₁.setTop (mkF m 21 #[.val (.ref ra), .val (.int vo), .val (.long r4), .second, .val (.int ((((vo + (1 : Int32)) + (1 : Int32)) + (1 : Int32)) + (1 : Int32)))] [(.int ((((vo + (1 : Int32)) + (1 : Int32)) + (1 : Int32)) + (1 : Int32))), (.ref ra), (.long (r4 <<< ((8 : Int32) &&& 0x3f).toInt64))]))
  refine OGo.on (fun t k => OAL.baB X0 hx hZ e0 A0 q4 (hb hby d1_21) k) ?_
  show OGo p e below s _ _ _ (s₁.setTop (mkF m 22 #[.val (.ref ra), .val (.int vo), .val (.long r4), .second, .val (.int ((((vo + (1 : Int32)) + (1 : Int32)) + (1 : Int32)) + (1 : Int32)))] [(.int w4), (.long (r4 <<< ((8 : Int32) &&& 0x3f).toInt64))]))
  refine OGo.on (fun t k => XS.i2l X0.here hx rfl (hb hby d1_22) rfl k) ?_
  show OGo p e below s _ _ _ (s₁.setTop (mkF m 23 #[.val (.ref ra), .val (.int vo), .val (.long r4), .second, .val (.int ((((vo + (1 : Int32)) + (1 : Int32)) + (1 : Int32)) + (1 : Int32)))] [(.long (w4.toInt64)), (.long (r4 <<< ((8 : Int32) &&& 0x3f).toInt64))]))
  refine OGo.on (fun t k => X0.ldc2J hx hown (mvT hZ (hw _ (List.mem_of_getElem? (i := 5) rfl))) (g := (mkF m 23 #[.val (.ref ra), .val (.int vo), .val (.long r4), .second, .val (.int ((((vo + (1 : Int32)) + (1 : Int32)) + (1 : Int32)) + (1 : Int32)))] [(.long (w4.toInt64)), (.long (r4 <<< ((8 : Int32) &&& 0x3f).toInt64))])) rfl (hb hby d1_23) k) ?_
  show OGo p e below s _ _ _ (s₁.setTop (mkF m 26 #[.val (.ref ra), .val (.int vo), .val (.long r4), .second, .val (.int ((((vo + (1 : Int32)) + (1 : Int32)) + (1 : Int32)) + (1 : Int32)))] [(.long (255 : Int64)), (.long (w4.toInt64)), (.long (r4 <<< ((8 : Int32) &&& 0x3f).toInt64))]))
  refine OGo.on (fun t k => XS.land X0.here hx rfl (hb hby d1_26) rfl k) ?_
  show OGo p e below s _ _ _ (s₁.setTop (mkF m 27 #[.val (.ref ra), .val (.int vo), .val (.long r4), .second, .val (.int ((((vo + (1 : Int32)) + (1 : Int32)) + (1 : Int32)) + (1 : Int32)))] [(.long ((w4.toInt64) &&& (255 : Int64))), (.long (r4 <<< ((8 : Int32) &&& 0x3f).toInt64))]))
  refine OGo.on (fun t k => XS.lor X0.here hx rfl (hb hby d1_27) rfl k) ?_
  show OGo p e below s _ _ _ (s₁.setTop (mkF m 28 #[.val (.ref ra), .val (.int vo), .val (.long r4), .second, .val (.int ((((vo + (1 : Int32)) + (1 : Int32)) + (1 : Int32)) + (1 : Int32)))] [(.long ((r4 <<< ((8 : Int32) &&& 0x3f).toInt64) ||| ((w4.toInt64) &&& (255 : Int64))))]))
  refine OGo.on (fun t k => XS.lstoreN X0.here hx rfl (hb hby d1_28) rfl (l' := #[.val (.ref ra), .val (.int vo), .val (.long ((r4 <<< ((8 : Int32) &&& 0x3f).toInt64) ||| ((w4.toInt64) &&& (255 : Int64)))), .second, .val (.int ((((vo + (1 : Int32)) + (1 : Int32)) + (1 : Int32)) + (1 : Int32)))]) rfl k) ?_
  show OGo p e below s _ _ _ (s₁.setTop (mkF m 29 #[.val (.ref ra), .val (.int vo), .val (.long ((r4 <<< ((8 : Int32) &&& 0x3f).toInt64) ||| ((w4.toInt64) &&& (255 : Int64)))), .second, .val (.int ((((vo + (1 : Int32)) + (1 : Int32)) + (1 : Int32)) + (1 : Int32)))] []))
  generalize hv_r5 : ((r4 <<< ((8 : Int32) &&& 0x3f).toInt64) ||| ((w4.toInt64) &&& (255 : Int64))) = r5
  show OGo p e below s _ _ _ (s₁.setTop (mkF m 29 #[.val (.ref ra), .val (.int vo), .val (.long r5), .second, .val (.int ((((vo + (1 : Int32)) + (1 : Int32)) + (1 : Int32)) + (1 : Int32)))] []))
  refine OGo.on (fun t k => XS.iinc X0.here hx rfl (hb hby d1_29) rfl (l' := #[.val (.ref ra), .val (.int vo), .val (.long r5), .second, .val (.int (((((vo + (1 : Int32)) + (1 : Int32)) + (1 : Int32)) + (1 : Int32)) + (1 : Int32)))]) rfl k) ?_
  show OGo p e below s _ _ _ (s₁.setTop (mkF m 32 #[.val (.ref ra), .val (.int vo), .val (.long r5), .second, .val (.int (((((vo + (1 : Int32)) + (1 : Int32)) + (1 : Int32)) + (1 : Int32)) + (1 : Int32)))] []))
  refine OGo.on (fun t k => XS.goto X0.here hx rfl (pc0 := 32) (pc' := 5) rfl (hb hby d1_32) (by decide) (by decide) k) ?_
  show OGo p e below s _ _ _ (s₁.setTop (mkF m 5 #[.val (.ref ra), .val (.int vo), .val (.long r5), .second, .val (.int (((((vo + (1 : Int32)) + (1 : Int32)) + (1 : Int32)) + (1 : Int32)) + (1 : Int32)))] []))
  refine OGo.on (fun t k => XS.iload X0.here hx rfl (hb hby d1_5) rfl k) ?_
  show OGo p e below s _ _ _ (s₁.setTop (mkF m 7 #[.val (.ref ra), .val (.int vo), .val (.long r5), .second, .val (.int (((((vo + (1 : Int32)) + (1 : Int32)) + (1 : Int32)) + (1 : Int32)) + (1 : Int32)))] [(.int (((((vo + (1 : Int32)) + (1 : Int32)) + (1 : Int32)) + (1 : Int32)) + (1 : Int32)))]))
  refine OGo.on (fun t k => XS.iloadN X0.here hx rfl (hb hby d1_7) rfl k) ?_
  show OGo p e below s _ _ _ (s₁.setTop (mkF m 8 #[.val (.ref ra), .val (.int vo), .val (.long r5), .second, .val (.int (((((vo + (1 : Int32)) + (1 : Int32)) + (1 : Int32)) + (1 : Int32)) + (1 : Int32)))] [(.int vo), (.int (((((vo + (1 : Int32)) + (1 : Int32)) + (1 : Int32)) + (1 : Int32)) + (1 : Int32)))]))
  refine OGo.on (fun t k => XS.bipush X0.here hx rfl (hb hby d1_8) k) ?_
  show OGo p e below s _ _ _ (s₁.setTop (mkF m 10 #[.val (.ref ra), .val (.int vo), .val (.long r5), .second, .val (.int (((((vo + (1 : Int32)) + (1 : Int32)) + (1 : Int32)) + (1 : Int32)) + (1 : Int32)))] [(.int (8 : Int32)), (.int vo), (.int (((((vo + (1 : Int32)) + (1 : Int32)) + (1 : Int32)) + (1 : Int32)) + (1 : Int32)))]))
  refine OGo.on (fun t k => XS.iadd X0.here hx rfl (hb hby d1_10) rfl k) ?_
  show OGo p e below s _ _ _ (s₁.setTop (mkF m 11 #[.val (.ref ra), .val (.int vo), .val (.long r5), .second, .val (.int (((((vo + (1 : Int32)) + (1 : Int32)) + (1 : Int32)) + (1 : Int32)) + (1 : Int32)))] [(.int (vo + (8 : Int32))), (.int (((((vo + (1 : Int32)) + (1 : Int32)) + (1 : Int32)) + (1 : Int32)) + (1 : Int32)))]))
  refine OGo.on (fun t k => XS.icmpNo X0.here hx rfl (hb hby d1_11) rfl (tlt (own_x (P := fun o => ((((((o + (1 : Int32)) + (1 : Int32)) + (1 : Int32)) + (1 : Int32)) + (1 : Int32)) < (o + (8 : Int32)))) ho (by decide))).2.1 k) ?_
  show OGo p e below s _ _ _ (s₁.setTop (mkF m 14 #[.val (.ref ra), .val (.int vo), .val (.long r5), .second, .val (.int (((((vo + (1 : Int32)) + (1 : Int32)) + (1 : Int32)) + (1 : Int32)) + (1 : Int32)))] []))
  refine OGo.on (fun t k => XS.lloadN X0.here hx rfl (hb hby d1_14) rfl k) ?_
  show OGo p e below s _ _ _ (s₁.setTop (mkF m 15 #[.val (.ref ra), .val (.int vo), .val (.long r5), .second, .val (.int (((((vo + (1 : Int32)) + (1 : Int32)) + (1 : Int32)) + (1 : Int32)) + (1 : Int32)))] [(.long r5)]))
  refine OGo.on (fun t k => XS.bipush X0.here hx rfl (hb hby d1_15) k) ?_
  show OGo p e below s _ _ _ (s₁.setTop (mkF m 17 #[.val (.ref ra), .val (.int vo), .val (.long r5), .second, .val (.int (((((vo + (1 : Int32)) + (1 : Int32)) + (1 : Int32)) + (1 : Int32)) + (1 : Int32)))] [(.int (8 : Int32)), (.long r5)]))
  refine OGo.on (fun t k => XS.lshl X0.here hx rfl (hb hby d1_17) rfl k) ?_
  show OGo p e below s _ _ _ (s₁.setTop (mkF m 18 #[.val (.ref ra), .val (.int vo), .val (.long r5), .second, .val (.int (((((vo + (1 : Int32)) + (1 : Int32)) + (1 : Int32)) + (1 : Int32)) + (1 : Int32)))] [(.long (r5 <<< ((8 : Int32) &&& 0x3f).toInt64))]))
  refine OGo.on (fun t k => XS.aloadN X0.here hx rfl (hb hby d1_18) rfl rfl k) ?_
  show OGo p e below s _ _ _ (s₁.setTop (mkF m 19 #[.val (.ref ra), .val (.int vo), .val (.long r5), .second, .val (.int (((((vo + (1 : Int32)) + (1 : Int32)) + (1 : Int32)) + (1 : Int32)) + (1 : Int32)))] [(.ref ra), (.long (r5 <<< ((8 : Int32) &&& 0x3f).toInt64))]))
  refine OGo.on (fun t k => XS.iload X0.here hx rfl (hb hby d1_19) rfl k) ?_
  show OGo p e below s _ _ _ (s₁.setTop (mkF m 21 #[.val (.ref ra), .val (.int vo), .val (.long r5), .second, .val (.int (((((vo + (1 : Int32)) + (1 : Int32)) + (1 : Int32)) + (1 : Int32)) + (1 : Int32)))] [(.int (((((vo + (1 : Int32)) + (1 : Int32)) + (1 : Int32)) + (1 : Int32)) + (1 : Int32))), (.ref ra), (.long (r5 <<< ((8 : Int32) &&& 0x3f).toInt64))]))
  refine OGo.on (fun t k => OAL.baB X0 hx hZ e0 A0 q5 (hb hby d1_21) k) ?_
  show OGo p e below s _ _ _ (s₁.setTop (mkF m 22 #[.val (.ref ra), .val (.int vo), .val (.long r5), .second, .val (.int (((((vo + (1 : Int32)) + (1 : Int32)) + (1 : Int32)) + (1 : Int32)) + (1 : Int32)))] [(.int w5), (.long (r5 <<< ((8 : Int32) &&& 0x3f).toInt64))]))
  refine OGo.on (fun t k => XS.i2l X0.here hx rfl (hb hby d1_22) rfl k) ?_
  show OGo p e below s _ _ _ (s₁.setTop (mkF m 23 #[.val (.ref ra), .val (.int vo), .val (.long r5), .second, .val (.int (((((vo + (1 : Int32)) + (1 : Int32)) + (1 : Int32)) + (1 : Int32)) + (1 : Int32)))] [(.long (w5.toInt64)), (.long (r5 <<< ((8 : Int32) &&& 0x3f).toInt64))]))
  refine OGo.on (fun t k => X0.ldc2J hx hown (mvT hZ (hw _ (List.mem_of_getElem? (i := 5) rfl))) (g := (mkF m 23 #[.val (.ref ra), .val (.int vo), .val (.long r5), .second, .val (.int (((((vo + (1 : Int32)) + (1 : Int32)) + (1 : Int32)) + (1 : Int32)) + (1 : Int32)))] [(.long (w5.toInt64)), (.long (r5 <<< ((8 : Int32) &&& 0x3f).toInt64))])) rfl (hb hby d1_23) k) ?_
  show OGo p e below s _ _ _ (s₁.setTop (mkF m 26 #[.val (.ref ra), .val (.int vo), .val (.long r5), .second, .val (.int (((((vo + (1 : Int32)) + (1 : Int32)) + (1 : Int32)) + (1 : Int32)) + (1 : Int32)))] [(.long (255 : Int64)), (.long (w5.toInt64)), (.long (r5 <<< ((8 : Int32) &&& 0x3f).toInt64))]))
  refine OGo.on (fun t k => XS.land X0.here hx rfl (hb hby d1_26) rfl k) ?_
  show OGo p e below s _ _ _ (s₁.setTop (mkF m 27 #[.val (.ref ra), .val (.int vo), .val (.long r5), .second, .val (.int (((((vo + (1 : Int32)) + (1 : Int32)) + (1 : Int32)) + (1 : Int32)) + (1 : Int32)))] [(.long ((w5.toInt64) &&& (255 : Int64))), (.long (r5 <<< ((8 : Int32) &&& 0x3f).toInt64))]))
  refine OGo.on (fun t k => XS.lor X0.here hx rfl (hb hby d1_27) rfl k) ?_
  show OGo p e below s _ _ _ (s₁.setTop (mkF m 28 #[.val (.ref ra), .val (.int vo), .val (.long r5), .second, .val (.int (((((vo + (1 : Int32)) + (1 : Int32)) + (1 : Int32)) + (1 : Int32)) + (1 : Int32)))] [(.long ((r5 <<< ((8 : Int32) &&& 0x3f).toInt64) ||| ((w5.toInt64) &&& (255 : Int64))))]))
  refine OGo.on (fun t k => XS.lstoreN X0.here hx rfl (hb hby d1_28) rfl (l' := #[.val (.ref ra), .val (.int vo), .val (.long ((r5 <<< ((8 : Int32) &&& 0x3f).toInt64) ||| ((w5.toInt64) &&& (255 : Int64)))), .second, .val (.int (((((vo + (1 : Int32)) + (1 : Int32)) + (1 : Int32)) + (1 : Int32)) + (1 : Int32)))]) rfl k) ?_
  show OGo p e below s _ _ _ (s₁.setTop (mkF m 29 #[.val (.ref ra), .val (.int vo), .val (.long ((r5 <<< ((8 : Int32) &&& 0x3f).toInt64) ||| ((w5.toInt64) &&& (255 : Int64)))), .second, .val (.int (((((vo + (1 : Int32)) + (1 : Int32)) + (1 : Int32)) + (1 : Int32)) + (1 : Int32)))] []))
  generalize hv_r6 : ((r5 <<< ((8 : Int32) &&& 0x3f).toInt64) ||| ((w5.toInt64) &&& (255 : Int64))) = r6
  show OGo p e below s _ _ _ (s₁.setTop (mkF m 29 #[.val (.ref ra), .val (.int vo), .val (.long r6), .second, .val (.int (((((vo + (1 : Int32)) + (1 : Int32)) + (1 : Int32)) + (1 : Int32)) + (1 : Int32)))] []))
  refine OGo.on (fun t k => XS.iinc X0.here hx rfl (hb hby d1_29) rfl (l' := #[.val (.ref ra), .val (.int vo), .val (.long r6), .second, .val (.int ((((((vo + (1 : Int32)) + (1 : Int32)) + (1 : Int32)) + (1 : Int32)) + (1 : Int32)) + (1 : Int32)))]) rfl k) ?_
  show OGo p e below s _ _ _ (s₁.setTop (mkF m 32 #[.val (.ref ra), .val (.int vo), .val (.long r6), .second, .val (.int ((((((vo + (1 : Int32)) + (1 : Int32)) + (1 : Int32)) + (1 : Int32)) + (1 : Int32)) + (1 : Int32)))] []))
  refine OGo.on (fun t k => XS.goto X0.here hx rfl (pc0 := 32) (pc' := 5) rfl (hb hby d1_32) (by decide) (by decide) k) ?_
  show OGo p e below s _ _ _ (s₁.setTop (mkF m 5 #[.val (.ref ra), .val (.int vo), .val (.long r6), .second, .val (.int ((((((vo + (1 : Int32)) + (1 : Int32)) + (1 : Int32)) + (1 : Int32)) + (1 : Int32)) + (1 : Int32)))] []))
  refine OGo.on (fun t k => XS.iload X0.here hx rfl (hb hby d1_5) rfl k) ?_
  show OGo p e below s _ _ _ (s₁.setTop (mkF m 7 #[.val (.ref ra), .val (.int vo), .val (.long r6), .second, .val (.int ((((((vo + (1 : Int32)) + (1 : Int32)) + (1 : Int32)) + (1 : Int32)) + (1 : Int32)) + (1 : Int32)))] [(.int ((((((vo + (1 : Int32)) + (1 : Int32)) + (1 : Int32)) + (1 : Int32)) + (1 : Int32)) + (1 : Int32)))]))
  refine OGo.on (fun t k => XS.iloadN X0.here hx rfl (hb hby d1_7) rfl k) ?_
  show OGo p e below s _ _ _ (s₁.setTop (mkF m 8 #[.val (.ref ra), .val (.int vo), .val (.long r6), .second, .val (.int ((((((vo + (1 : Int32)) + (1 : Int32)) + (1 : Int32)) + (1 : Int32)) + (1 : Int32)) + (1 : Int32)))] [(.int vo), (.int ((((((vo + (1 : Int32)) + (1 : Int32)) + (1 : Int32)) + (1 : Int32)) + (1 : Int32)) + (1 : Int32)))]))
  refine OGo.on (fun t k => XS.bipush X0.here hx rfl (hb hby d1_8) k) ?_
  show OGo p e below s _ _ _ (s₁.setTop (mkF m 10 #[.val (.ref ra), .val (.int vo), .val (.long r6), .second, .val (.int ((((((vo + (1 : Int32)) + (1 : Int32)) + (1 : Int32)) + (1 : Int32)) + (1 : Int32)) + (1 : Int32)))] [(.int (8 : Int32)), (.int vo), (.int ((((((vo + (1 : Int32)) + (1 : Int32)) + (1 : Int32)) + (1 : Int32)) + (1 : Int32)) + (1 : Int32)))]))
  refine OGo.on (fun t k => XS.iadd X0.here hx rfl (hb hby d1_10) rfl k) ?_
  show OGo p e below s _ _ _ (s₁.setTop (mkF m 11 #[.val (.ref ra), .val (.int vo), .val (.long r6), .second, .val (.int ((((((vo + (1 : Int32)) + (1 : Int32)) + (1 : Int32)) + (1 : Int32)) + (1 : Int32)) + (1 : Int32)))] [(.int (vo + (8 : Int32))), (.int ((((((vo + (1 : Int32)) + (1 : Int32)) + (1 : Int32)) + (1 : Int32)) + (1 : Int32)) + (1 : Int32)))]))
  refine OGo.on (fun t k => XS.icmpNo X0.here hx rfl (hb hby d1_11) rfl (tlt (own_x (P := fun o => (((((((o + (1 : Int32)) + (1 : Int32)) + (1 : Int32)) + (1 : Int32)) + (1 : Int32)) + (1 : Int32)) < (o + (8 : Int32)))) ho (by decide))).2.1 k) ?_
  show OGo p e below s _ _ _ (s₁.setTop (mkF m 14 #[.val (.ref ra), .val (.int vo), .val (.long r6), .second, .val (.int ((((((vo + (1 : Int32)) + (1 : Int32)) + (1 : Int32)) + (1 : Int32)) + (1 : Int32)) + (1 : Int32)))] []))
  refine OGo.on (fun t k => XS.lloadN X0.here hx rfl (hb hby d1_14) rfl k) ?_
  show OGo p e below s _ _ _ (s₁.setTop (mkF m 15 #[.val (.ref ra), .val (.int vo), .val (.long r6), .second, .val (.int ((((((vo + (1 : Int32)) + (1 : Int32)) + (1 : Int32)) + (1 : Int32)) + (1 : Int32)) + (1 : Int32)))] [(.long r6)]))
  refine OGo.on (fun t k => XS.bipush X0.here hx rfl (hb hby d1_15) k) ?_
  show OGo p e below s _ _ _ (s₁.setTop (mkF m 17 #[.val (.ref ra), .val (.int vo), .val (.long r6), .second, .val (.int ((((((vo + (1 : Int32)) + (1 : Int32)) + (1 : Int32)) + (1 : Int32)) + (1 : Int32)) + (1 : Int32)))] [(.int (8 : Int32)), (.long r6)]))
  refine OGo.on (fun t k => XS.lshl X0.here hx rfl (hb hby d1_17) rfl k) ?_
  show OGo p e below s _ _ _ (s₁.setTop (mkF m 18 #[.val (.ref ra), .val (.int vo), .val (.long r6), .second, .val (.int ((((((vo + (1 : Int32)) + (1 : Int32)) + (1 : Int32)) + (1 : Int32)) + (1 : Int32)) + (1 : Int32)))] [(.long (r6 <<< ((8 : Int32) &&& 0x3f).toInt64))]))
  refine OGo.on (fun t k => XS.aloadN X0.here hx rfl (hb hby d1_18) rfl rfl k) ?_
  show OGo p e below s _ _ _ (s₁.setTop (mkF m 19 #[.val (.ref ra), .val (.int vo), .val (.long r6), .second, .val (.int ((((((vo + (1 : Int32)) + (1 : Int32)) + (1 : Int32)) + (1 : Int32)) + (1 : Int32)) + (1 : Int32)))] [(.ref ra), (.long (r6 <<< ((8 : Int32) &&& 0x3f).toInt64))]))
  refine OGo.on (fun t k => XS.iload X0.here hx rfl (hb hby d1_19) rfl k) ?_
  show OGo p e below s _ _ _ (s₁.setTop (mkF m 21 #[.val (.ref ra), .val (.int vo), .val (.long r6), .second, .val (.int ((((((vo + (1 : Int32)) + (1 : Int32)) + (1 : Int32)) + (1 : Int32)) + (1 : Int32)) + (1 : Int32)))] [(.int ((((((vo + (1 : Int32)) + (1 : Int32)) + (1 : Int32)) + (1 : Int32)) + (1 : Int32)) + (1 : Int32))), (.ref ra), (.long (r6 <<< ((8 : Int32) &&& 0x3f).toInt64))]))
  refine OGo.on (fun t k => OAL.baB X0 hx hZ e0 A0 q6 (hb hby d1_21) k) ?_
  show OGo p e below s _ _ _ (s₁.setTop (mkF m 22 #[.val (.ref ra), .val (.int vo), .val (.long r6), .second, .val (.int ((((((vo + (1 : Int32)) + (1 : Int32)) + (1 : Int32)) + (1 : Int32)) + (1 : Int32)) + (1 : Int32)))] [(.int w6), (.long (r6 <<< ((8 : Int32) &&& 0x3f).toInt64))]))
  refine OGo.on (fun t k => XS.i2l X0.here hx rfl (hb hby d1_22) rfl k) ?_
  show OGo p e below s _ _ _ (s₁.setTop (mkF m 23 #[.val (.ref ra), .val (.int vo), .val (.long r6), .second, .val (.int ((((((vo + (1 : Int32)) + (1 : Int32)) + (1 : Int32)) + (1 : Int32)) + (1 : Int32)) + (1 : Int32)))] [(.long (w6.toInt64)), (.long (r6 <<< ((8 : Int32) &&& 0x3f).toInt64))]))
  refine OGo.on (fun t k => X0.ldc2J hx hown (mvT hZ (hw _ (List.mem_of_getElem? (i := 5) rfl))) (g := (mkF m 23 #[.val (.ref ra), .val (.int vo), .val (.long r6), .second, .val (.int ((((((vo + (1 : Int32)) + (1 : Int32)) + (1 : Int32)) + (1 : Int32)) + (1 : Int32)) + (1 : Int32)))] [(.long (w6.toInt64)), (.long (r6 <<< ((8 : Int32) &&& 0x3f).toInt64))])) rfl (hb hby d1_23) k) ?_
  show OGo p e below s _ _ _ (s₁.setTop (mkF m 26 #[.val (.ref ra), .val (.int vo), .val (.long r6), .second, .val (.int ((((((vo + (1 : Int32)) + (1 : Int32)) + (1 : Int32)) + (1 : Int32)) + (1 : Int32)) + (1 : Int32)))] [(.long (255 : Int64)), (.long (w6.toInt64)), (.long (r6 <<< ((8 : Int32) &&& 0x3f).toInt64))]))
  refine OGo.on (fun t k => XS.land X0.here hx rfl (hb hby d1_26) rfl k) ?_
  show OGo p e below s _ _ _ (s₁.setTop (mkF m 27 #[.val (.ref ra), .val (.int vo), .val (.long r6), .second, .val (.int ((((((vo + (1 : Int32)) + (1 : Int32)) + (1 : Int32)) + (1 : Int32)) + (1 : Int32)) + (1 : Int32)))] [(.long ((w6.toInt64) &&& (255 : Int64))), (.long (r6 <<< ((8 : Int32) &&& 0x3f).toInt64))]))
  refine OGo.on (fun t k => XS.lor X0.here hx rfl (hb hby d1_27) rfl k) ?_
  show OGo p e below s _ _ _ (s₁.setTop (mkF m 28 #[.val (.ref ra), .val (.int vo), .val (.long r6), .second, .val (.int ((((((vo + (1 : Int32)) + (1 : Int32)) + (1 : Int32)) + (1 : Int32)) + (1 : Int32)) + (1 : Int32)))] [(.long ((r6 <<< ((8 : Int32) &&& 0x3f).toInt64) ||| ((w6.toInt64) &&& (255 : Int64))))]))
  refine OGo.on (fun t k => XS.lstoreN X0.here hx rfl (hb hby d1_28) rfl (l' := #[.val (.ref ra), .val (.int vo), .val (.long ((r6 <<< ((8 : Int32) &&& 0x3f).toInt64) ||| ((w6.toInt64) &&& (255 : Int64)))), .second, .val (.int ((((((vo + (1 : Int32)) + (1 : Int32)) + (1 : Int32)) + (1 : Int32)) + (1 : Int32)) + (1 : Int32)))]) rfl k) ?_
  show OGo p e below s _ _ _ (s₁.setTop (mkF m 29 #[.val (.ref ra), .val (.int vo), .val (.long ((r6 <<< ((8 : Int32) &&& 0x3f).toInt64) ||| ((w6.toInt64) &&& (255 : Int64)))), .second, .val (.int ((((((vo + (1 : Int32)) + (1 : Int32)) + (1 : Int32)) + (1 : Int32)) + (1 : Int32)) + (1 : Int32)))] []))
  generalize hv_r7 : ((r6 <<< ((8 : Int32) &&& 0x3f).toInt64) ||| ((w6.toInt64) &&& (255 : Int64))) = r7
  show OGo p e below s _ _ _ (s₁.setTop (mkF m 29 #[.val (.ref ra), .val (.int vo), .val (.long r7), .second, .val (.int ((((((vo + (1 : Int32)) + (1 : Int32)) + (1 : Int32)) + (1 : Int32)) + (1 : Int32)) + (1 : Int32)))] []))
  refine OGo.on (fun t k => XS.iinc X0.here hx rfl (hb hby d1_29) rfl (l' := #[.val (.ref ra), .val (.int vo), .val (.long r7), .second, .val (.int (((((((vo + (1 : Int32)) + (1 : Int32)) + (1 : Int32)) + (1 : Int32)) + (1 : Int32)) + (1 : Int32)) + (1 : Int32)))]) rfl k) ?_
  show OGo p e below s _ _ _ (s₁.setTop (mkF m 32 #[.val (.ref ra), .val (.int vo), .val (.long r7), .second, .val (.int (((((((vo + (1 : Int32)) + (1 : Int32)) + (1 : Int32)) + (1 : Int32)) + (1 : Int32)) + (1 : Int32)) + (1 : Int32)))] []))
  refine OGo.on (fun t k => XS.goto X0.here hx rfl (pc0 := 32) (pc' := 5) rfl (hb hby d1_32) (by decide) (by decide) k) ?_
  show OGo p e below s _ _ _ (s₁.setTop (mkF m 5 #[.val (.ref ra), .val (.int vo), .val (.long r7), .second, .val (.int (((((((vo + (1 : Int32)) + (1 : Int32)) + (1 : Int32)) + (1 : Int32)) + (1 : Int32)) + (1 : Int32)) + (1 : Int32)))] []))
  refine OGo.on (fun t k => XS.iload X0.here hx rfl (hb hby d1_5) rfl k) ?_
  show OGo p e below s _ _ _ (s₁.setTop (mkF m 7 #[.val (.ref ra), .val (.int vo), .val (.long r7), .second, .val (.int (((((((vo + (1 : Int32)) + (1 : Int32)) + (1 : Int32)) + (1 : Int32)) + (1 : Int32)) + (1 : Int32)) + (1 : Int32)))] [(.int (((((((vo + (1 : Int32)) + (1 : Int32)) + (1 : Int32)) + (1 : Int32)) + (1 : Int32)) + (1 : Int32)) + (1 : Int32)))]))
  refine OGo.on (fun t k => XS.iloadN X0.here hx rfl (hb hby d1_7) rfl k) ?_
  show OGo p e below s _ _ _ (s₁.setTop (mkF m 8 #[.val (.ref ra), .val (.int vo), .val (.long r7), .second, .val (.int (((((((vo + (1 : Int32)) + (1 : Int32)) + (1 : Int32)) + (1 : Int32)) + (1 : Int32)) + (1 : Int32)) + (1 : Int32)))] [(.int vo), (.int (((((((vo + (1 : Int32)) + (1 : Int32)) + (1 : Int32)) + (1 : Int32)) + (1 : Int32)) + (1 : Int32)) + (1 : Int32)))]))
  refine OGo.on (fun t k => XS.bipush X0.here hx rfl (hb hby d1_8) k) ?_
  show OGo p e below s _ _ _ (s₁.setTop (mkF m 10 #[.val (.ref ra), .val (.int vo), .val (.long r7), .second, .val (.int (((((((vo + (1 : Int32)) + (1 : Int32)) + (1 : Int32)) + (1 : Int32)) + (1 : Int32)) + (1 : Int32)) + (1 : Int32)))] [(.int (8 : Int32)), (.int vo), (.int (((((((vo + (1 : Int32)) + (1 : Int32)) + (1 : Int32)) + (1 : Int32)) + (1 : Int32)) + (1 : Int32)) + (1 : Int32)))]))
  refine OGo.on (fun t k => XS.iadd X0.here hx rfl (hb hby d1_10) rfl k) ?_
  show OGo p e below s _ _ _ (s₁.setTop (mkF m 11 #[.val (.ref ra), .val (.int vo), .val (.long r7), .second, .val (.int (((((((vo + (1 : Int32)) + (1 : Int32)) + (1 : Int32)) + (1 : Int32)) + (1 : Int32)) + (1 : Int32)) + (1 : Int32)))] [(.int (vo + (8 : Int32))), (.int (((((((vo + (1 : Int32)) + (1 : Int32)) + (1 : Int32)) + (1 : Int32)) + (1 : Int32)) + (1 : Int32)) + (1 : Int32)))]))
  refine OGo.on (fun t k => XS.icmpNo X0.here hx rfl (hb hby d1_11) rfl (tlt (own_x (P := fun o => ((((((((o + (1 : Int32)) + (1 : Int32)) + (1 : Int32)) + (1 : Int32)) + (1 : Int32)) + (1 : Int32)) + (1 : Int32)) < (o + (8 : Int32)))) ho (by decide))).2.1 k) ?_
  show OGo p e below s _ _ _ (s₁.setTop (mkF m 14 #[.val (.ref ra), .val (.int vo), .val (.long r7), .second, .val (.int (((((((vo + (1 : Int32)) + (1 : Int32)) + (1 : Int32)) + (1 : Int32)) + (1 : Int32)) + (1 : Int32)) + (1 : Int32)))] []))
  refine OGo.on (fun t k => XS.lloadN X0.here hx rfl (hb hby d1_14) rfl k) ?_
  show OGo p e below s _ _ _ (s₁.setTop (mkF m 15 #[.val (.ref ra), .val (.int vo), .val (.long r7), .second, .val (.int (((((((vo + (1 : Int32)) + (1 : Int32)) + (1 : Int32)) + (1 : Int32)) + (1 : Int32)) + (1 : Int32)) + (1 : Int32)))] [(.long r7)]))
  refine OGo.on (fun t k => XS.bipush X0.here hx rfl (hb hby d1_15) k) ?_
  show OGo p e below s _ _ _ (s₁.setTop (mkF m 17 #[.val (.ref ra), .val (.int vo), .val (.long r7), .second, .val (.int (((((((vo + (1 : Int32)) + (1 : Int32)) + (1 : Int32)) + (1 : Int32)) + (1 : Int32)) + (1 : Int32)) + (1 : Int32)))] [(.int (8 : Int32)), (.long r7)]))
  refine OGo.on (fun t k => XS.lshl X0.here hx rfl (hb hby d1_17) rfl k) ?_
  show OGo p e below s _ _ _ (s₁.setTop (mkF m 18 #[.val (.ref ra), .val (.int vo), .val (.long r7), .second, .val (.int (((((((vo + (1 : Int32)) + (1 : Int32)) + (1 : Int32)) + (1 : Int32)) + (1 : Int32)) + (1 : Int32)) + (1 : Int32)))] [(.long (r7 <<< ((8 : Int32) &&& 0x3f).toInt64))]))
  refine OGo.on (fun t k => XS.aloadN X0.here hx rfl (hb hby d1_18) rfl rfl k) ?_
  show OGo p e below s _ _ _ (s₁.setTop (mkF m 19 #[.val (.ref ra), .val (.int vo), .val (.long r7), .second, .val (.int (((((((vo + (1 : Int32)) + (1 : Int32)) + (1 : Int32)) + (1 : Int32)) + (1 : Int32)) + (1 : Int32)) + (1 : Int32)))] [(.ref ra), (.long (r7 <<< ((8 : Int32) &&& 0x3f).toInt64))]))
  refine OGo.on (fun t k => XS.iload X0.here hx rfl (hb hby d1_19) rfl k) ?_
  show OGo p e below s _ _ _ (s₁.setTop (mkF m 21 #[.val (.ref ra), .val (.int vo), .val (.long r7), .second, .val (.int (((((((vo + (1 : Int32)) + (1 : Int32)) + (1 : Int32)) + (1 : Int32)) + (1 : Int32)) + (1 : Int32)) + (1 : Int32)))] [(.int (((((((vo + (1 : Int32)) + (1 : Int32)) + (1 : Int32)) + (1 : Int32)) + (1 : Int32)) + (1 : Int32)) + (1 : Int32))), (.ref ra), (.long (r7 <<< ((8 : Int32) &&& 0x3f).toInt64))]))
  refine OGo.on (fun t k => OAL.baB X0 hx hZ e0 A0 q7 (hb hby d1_21) k) ?_
  show OGo p e below s _ _ _ (s₁.setTop (mkF m 22 #[.val (.ref ra), .val (.int vo), .val (.long r7), .second, .val (.int (((((((vo + (1 : Int32)) + (1 : Int32)) + (1 : Int32)) + (1 : Int32)) + (1 : Int32)) + (1 : Int32)) + (1 : Int32)))] [(.int w7), (.long (r7 <<< ((8 : Int32) &&& 0x3f).toInt64))]))
  refine OGo.on (fun t k => XS.i2l X0.here hx rfl (hb hby d1_22) rfl k) ?_
  show OGo p e below s _ _ _ (s₁.setTop (mkF m 23 #[.val (.ref ra), .val (.int vo), .val (.long r7), .second, .val (.int (((((((vo + (1 : Int32)) + (1 : Int32)) + (1 : Int32)) + (1 : Int32)) + (1 : Int32)) + (1 : Int32)) + (1 : Int32)))] [(.long (w7.toInt64)), (.long (r7 <<< ((8 : Int32) &&& 0x3f).toInt64))]))
  refine OGo.on (fun t k => X0.ldc2J hx hown (mvT hZ (hw _ (List.mem_of_getElem? (i := 5) rfl))) (g := (mkF m 23 #[.val (.ref ra), .val (.int vo), .val (.long r7), .second, .val (.int (((((((vo + (1 : Int32)) + (1 : Int32)) + (1 : Int32)) + (1 : Int32)) + (1 : Int32)) + (1 : Int32)) + (1 : Int32)))] [(.long (w7.toInt64)), (.long (r7 <<< ((8 : Int32) &&& 0x3f).toInt64))])) rfl (hb hby d1_23) k) ?_
  show OGo p e below s _ _ _ (s₁.setTop (mkF m 26 #[.val (.ref ra), .val (.int vo), .val (.long r7), .second, .val (.int (((((((vo + (1 : Int32)) + (1 : Int32)) + (1 : Int32)) + (1 : Int32)) + (1 : Int32)) + (1 : Int32)) + (1 : Int32)))] [(.long (255 : Int64)), (.long (w7.toInt64)), (.long (r7 <<< ((8 : Int32) &&& 0x3f).toInt64))]))
  refine OGo.on (fun t k => XS.land X0.here hx rfl (hb hby d1_26) rfl k) ?_
  show OGo p e below s _ _ _ (s₁.setTop (mkF m 27 #[.val (.ref ra), .val (.int vo), .val (.long r7), .second, .val (.int (((((((vo + (1 : Int32)) + (1 : Int32)) + (1 : Int32)) + (1 : Int32)) + (1 : Int32)) + (1 : Int32)) + (1 : Int32)))] [(.long ((w7.toInt64) &&& (255 : Int64))), (.long (r7 <<< ((8 : Int32) &&& 0x3f).toInt64))]))
  refine OGo.on (fun t k => XS.lor X0.here hx rfl (hb hby d1_27) rfl k) ?_
  show OGo p e below s _ _ _ (s₁.setTop (mkF m 28 #[.val (.ref ra), .val (.int vo), .val (.long r7), .second, .val (.int (((((((vo + (1 : Int32)) + (1 : Int32)) + (1 : Int32)) + (1 : Int32)) + (1 : Int32)) + (1 : Int32)) + (1 : Int32)))] [(.long ((r7 <<< ((8 : Int32) &&& 0x3f).toInt64) ||| ((w7.toInt64) &&& (255 : Int64))))]))
  refine OGo.on (fun t k => XS.lstoreN X0.here hx rfl (hb hby d1_28) rfl (l' := #[.val (.ref ra), .val (.int vo), .val (.long ((r7 <<< ((8 : Int32) &&& 0x3f).toInt64) ||| ((w7.toInt64) &&& (255 : Int64)))), .second, .val (.int (((((((vo + (1 : Int32)) + (1 : Int32)) + (1 : Int32)) + (1 : Int32)) + (1 : Int32)) + (1 : Int32)) + (1 : Int32)))]) rfl k) ?_
  show OGo p e below s _ _ _ (s₁.setTop (mkF m 29 #[.val (.ref ra), .val (.int vo), .val (.long ((r7 <<< ((8 : Int32) &&& 0x3f).toInt64) ||| ((w7.toInt64) &&& (255 : Int64)))), .second, .val (.int (((((((vo + (1 : Int32)) + (1 : Int32)) + (1 : Int32)) + (1 : Int32)) + (1 : Int32)) + (1 : Int32)) + (1 : Int32)))] []))
  generalize hv_r8 : ((r7 <<< ((8 : Int32) &&& 0x3f).toInt64) ||| ((w7.toInt64) &&& (255 : Int64))) = r8
  show OGo p e below s _ _ _ (s₁.setTop (mkF m 29 #[.val (.ref ra), .val (.int vo), .val (.long r8), .second, .val (.int (((((((vo + (1 : Int32)) + (1 : Int32)) + (1 : Int32)) + (1 : Int32)) + (1 : Int32)) + (1 : Int32)) + (1 : Int32)))] []))
  refine OGo.on (fun t k => XS.iinc X0.here hx rfl (hb hby d1_29) rfl (l' := #[.val (.ref ra), .val (.int vo), .val (.long r8), .second, .val (.int ((((((((vo + (1 : Int32)) + (1 : Int32)) + (1 : Int32)) + (1 : Int32)) + (1 : Int32)) + (1 : Int32)) + (1 : Int32)) + (1 : Int32)))]) rfl k) ?_
  show OGo p e below s _ _ _ (s₁.setTop (mkF m 32 #[.val (.ref ra), .val (.int vo), .val (.long r8), .second, .val (.int ((((((((vo + (1 : Int32)) + (1 : Int32)) + (1 : Int32)) + (1 : Int32)) + (1 : Int32)) + (1 : Int32)) + (1 : Int32)) + (1 : Int32)))] []))
  refine OGo.on (fun t k => XS.goto X0.here hx rfl (pc0 := 32) (pc' := 5) rfl (hb hby d1_32) (by decide) (by decide) k) ?_
  show OGo p e below s _ _ _ (s₁.setTop (mkF m 5 #[.val (.ref ra), .val (.int vo), .val (.long r8), .second, .val (.int ((((((((vo + (1 : Int32)) + (1 : Int32)) + (1 : Int32)) + (1 : Int32)) + (1 : Int32)) + (1 : Int32)) + (1 : Int32)) + (1 : Int32)))] []))
  refine OGo.on (fun t k => XS.iload X0.here hx rfl (hb hby d1_5) rfl k) ?_
  show OGo p e below s _ _ _ (s₁.setTop (mkF m 7 #[.val (.ref ra), .val (.int vo), .val (.long r8), .second, .val (.int ((((((((vo + (1 : Int32)) + (1 : Int32)) + (1 : Int32)) + (1 : Int32)) + (1 : Int32)) + (1 : Int32)) + (1 : Int32)) + (1 : Int32)))] [(.int ((((((((vo + (1 : Int32)) + (1 : Int32)) + (1 : Int32)) + (1 : Int32)) + (1 : Int32)) + (1 : Int32)) + (1 : Int32)) + (1 : Int32)))]))
  refine OGo.on (fun t k => XS.iloadN X0.here hx rfl (hb hby d1_7) rfl k) ?_
  show OGo p e below s _ _ _ (s₁.setTop (mkF m 8 #[.val (.ref ra), .val (.int vo), .val (.long r8), .second, .val (.int ((((((((vo + (1 : Int32)) + (1 : Int32)) + (1 : Int32)) + (1 : Int32)) + (1 : Int32)) + (1 : Int32)) + (1 : Int32)) + (1 : Int32)))] [(.int vo), (.int ((((((((vo + (1 : Int32)) + (1 : Int32)) + (1 : Int32)) + (1 : Int32)) + (1 : Int32)) + (1 : Int32)) + (1 : Int32)) + (1 : Int32)))]))
  refine OGo.on (fun t k => XS.bipush X0.here hx rfl (hb hby d1_8) k) ?_
  show OGo p e below s _ _ _ (s₁.setTop (mkF m 10 #[.val (.ref ra), .val (.int vo), .val (.long r8), .second, .val (.int ((((((((vo + (1 : Int32)) + (1 : Int32)) + (1 : Int32)) + (1 : Int32)) + (1 : Int32)) + (1 : Int32)) + (1 : Int32)) + (1 : Int32)))] [(.int (8 : Int32)), (.int vo), (.int ((((((((vo + (1 : Int32)) + (1 : Int32)) + (1 : Int32)) + (1 : Int32)) + (1 : Int32)) + (1 : Int32)) + (1 : Int32)) + (1 : Int32)))]))
  refine OGo.on (fun t k => XS.iadd X0.here hx rfl (hb hby d1_10) rfl k) ?_
  show OGo p e below s _ _ _ (s₁.setTop (mkF m 11 #[.val (.ref ra), .val (.int vo), .val (.long r8), .second, .val (.int ((((((((vo + (1 : Int32)) + (1 : Int32)) + (1 : Int32)) + (1 : Int32)) + (1 : Int32)) + (1 : Int32)) + (1 : Int32)) + (1 : Int32)))] [(.int (vo + (8 : Int32))), (.int ((((((((vo + (1 : Int32)) + (1 : Int32)) + (1 : Int32)) + (1 : Int32)) + (1 : Int32)) + (1 : Int32)) + (1 : Int32)) + (1 : Int32)))]))
  refine OGo.on (fun t k => XS.icmpYes X0.here hx rfl (pc0 := 11) (pc' := 35) rfl (hb hby d1_11) rfl (flt (own_x (P := fun o => ¬ (((((((((o + (1 : Int32)) + (1 : Int32)) + (1 : Int32)) + (1 : Int32)) + (1 : Int32)) + (1 : Int32)) + (1 : Int32)) + (1 : Int32)) < (o + (8 : Int32)))) ho (by decide))).2.1 (by decide) (by decide) k) ?_
  show OGo p e below s _ _ _ (s₁.setTop (mkF m 35 #[.val (.ref ra), .val (.int vo), .val (.long r8), .second, .val (.int ((((((((vo + (1 : Int32)) + (1 : Int32)) + (1 : Int32)) + (1 : Int32)) + (1 : Int32)) + (1 : Int32)) + (1 : Int32)) + (1 : Int32)))] []))
  refine OGo.on (fun t k => XS.lloadN X0.here hx rfl (hb hby d1_35) rfl k) ?_
  show OGo p e below s _ _ _ (s₁.setTop (mkF m 36 #[.val (.ref ra), .val (.int vo), .val (.long r8), .second, .val (.int ((((((((vo + (1 : Int32)) + (1 : Int32)) + (1 : Int32)) + (1 : Int32)) + (1 : Int32)) + (1 : Int32)) + (1 : Int32)) + (1 : Int32)))] [(.long r8)]))
  exact OGo.retJ X0 hx hret hlk (hb hby d1_36) (opJ (by subst hv_r8 hv_r7 hv_r6 hv_r5 hv_r4 hv_r3 hv_r2 hv_r1; rfl) N0 e0) (by decide) (by decide)
theorem own_fin (b k : Int32) {m : Nat} (hm : m < 32) (hk : k.toBitVec.toNat = 2 ^ m - 1) : ∃ n : Nat, n < 2 ^ m ∧ b &&& k = Int32.ofNat n := by
  have e := Jvm.Kit.i32_mask b k hm hk
  have p : (0 : Int) < 2 ^ m := Int.pow_pos (by decide)
  have h1 := Int.emod_nonneg b.toInt (b := 2 ^ m) (by omega)
  have h2 := Int.emod_lt_of_pos b.toInt p
  have h3 : (2 : Nat) ^ m ≤ 2 ^ 31 := Nat.pow_le_pow_right (by decide) (by omega)
  have h4 : ((2 ^ m : Nat) : Int) = (2 : Int) ^ m := by simp
  refine ⟨(b.toInt % 2 ^ m).toNat, by omega, ?_⟩
  rw [← Int32.toInt_inj, e, Int32.toInt_ofNat_of_lt (by omega)]; omega
theorem own_and3 (b : Int32) : ∃ n : Fin 4, b &&& 3 = Int32.ofNat n.val := by
  obtain ⟨n, hn, q⟩ := own_fin b 3 (m := 2) (by decide) (by decide)
  exact ⟨⟨n, hn⟩, q⟩
theorem own_pn1 : plainName "com/example/ringward/ringward/DigestsUint64BigEndianPinLaw" = true := by first | (simp [plainName, overriddenIn]; done) | decide +kernel
theorem own_pd0 : parseMethodDescriptor "([BI)J" = some ⟨[(.array .byte), .int], some .long⟩ := by decide +kernel
theorem ef_own_law (m : MethodId) (x0 : Int64) (x1 : Int32) (x2 : Int64) : entryFrame m #[(.long x0), (.int x1), (.long x2)] maxLocals = mkF m 0 #[.val (.long x0), .second, .val (.int x1), .val (.long x2), .second, .unset, .unset] [] := by first | (simp [entryFrame, mkF, argsToLocals, Value.category, maxLocals]; done) | rfl
set_option maxRecDepth 65536 in
set_option maxHeartbeats 40000000 in
theorem own_law (l : Launch) (Z : State) (a0 : Array Value) (hw : ∀ d ∈ tables_1, d.before a0 Z = true) (ws : List Jvm.Cond) (vv : Int64) (vseed : Int32) (vj : Int64) (h0 : Heap) (n0 : Nat) (Z0 : n0 ≤ h0.size)  :
    MetFree l x (head1 (Jvm.Cond.code x code maxLocals ret :: ws) room_1) (fun a U => a = #[(.long vv), (.int vseed), (.long vj)] ∧ Z.Warmed39 U.vm ∧ U.heap = h0) (fun _ _ _ _ _ => True) (fun _ U o U' => ∃ v L, o = .returned v ∧ (fun v h L => v = some (.int 1) ∧ Fr n0 L) v U'.heap L ∧ FrameEnd U o U' L 16 128) := by
  refine MetFree.of_bodySF (plainFor_of_name own_pn1) hisR ?_
  intro p e s m args below meth c s₁ Bd hml0 hP hK
  obtain ⟨rfl, hZ, hh⟩ := hP
  have hx := Bd.exec
  have hby := Bd.bytes
  have hret := Bd.returns
  have hlk : meth.locks = false := Bd.notSynchronized
  have hml : c.maxLocals = 7 := hml0
  have hown : s.vm.findClass "com/example/ringward/ringward/DigestsUint64BigEndianPinLaw" = some m.cls := findClass_of_methodNamed Bd.named
  have hnm := (name_of_methodNamed Bd.named Bd.method).1
  have X0 : Stand p l e room_1 s m #[(.long vv), (.int vseed), (.long vj)] below meth c s₁ [] 0 0 := Stand.of_body Bd
  have e0 : s₁.heap = h0 := by rw [← hh, Bd.state]; rfl
  have N0 := Fr.nil n0
  have pre0 : ∀ t, Steps p.tables e below (s₁.setTop (mkF m 0 #[.val (.long vv), .second, .val (.int vseed), .val (.long vj), .second, .unset, .unset] [])) t → Steps p.tables e below (s₁.setTop (entryFrame m #[(.long vv), (.int vseed), (.long vj)] maxLocals)) t := fun t k => castTop (ef_own_law m vv vseed vj) k
  show OGo p e below s (fun v h L => v = some (.int 1) ∧ Fr n0 L) 16 128 (s₁.setTop (entryFrame m #[(.long vv), (.int vseed), (.long vj)] maxLocals))
  refine OGo.on pre0 ?_
  show OGo p e below s _ _ _ (s₁.setTop (mkF m 0 #[.val (.long vv), .second, .val (.int vseed), .val (.long vj), .second, .unset, .unset] []))
  refine OGo.on (fun t k => XS.iloadN X0.here hx rfl (hb hby at_0) rfl k) ?_
  show OGo p e below s _ _ _ (s₁.setTop (mkF m 1 #[.val (.long vv), .second, .val (.int vseed), .val (.long vj), .second, .unset, .unset] [(.int vseed)]))
  refine OGo.on (fun t k => XS.iconst X0.here hx rfl (hb hby at_1) k) ?_
  show OGo p e below s _ _ _ (s₁.setTop (mkF m 2 #[.val (.long vv), .second, .val (.int vseed), .val (.long vj), .second, .unset, .unset] [(.int (3 : Int32)), (.int vseed)]))
  refine OGo.on (fun t k => XS.iand X0.here hx rfl (hb hby at_2) rfl k) ?_
  show OGo p e below s _ _ _ (s₁.setTop (mkF m 3 #[.val (.long vv), .second, .val (.int vseed), .val (.long vj), .second, .unset, .unset] [(.int (vseed &&& (3 : Int32)))]))
  refine OGo.on (fun t k => XS.istore X0.here hx rfl (hb hby at_3) rfl (l' := #[.val (.long vv), .second, .val (.int vseed), .val (.long vj), .second, .val (.int (vseed &&& (3 : Int32))), .unset]) rfl k) ?_
  show OGo p e below s _ _ _ (s₁.setTop (mkF m 5 #[.val (.long vv), .second, .val (.int vseed), .val (.long vj), .second, .val (.int (vseed &&& (3 : Int32))), .unset] []))
  generalize hv_vo : (vseed &&& (3 : Int32)) = vo
  show OGo p e below s _ _ _ (s₁.setTop (mkF m 5 #[.val (.long vv), .second, .val (.int vseed), .val (.long vj), .second, .val (.int vo), .unset] []))
  have ho : ∃ n : Fin 4, vo = Int32.ofNat n.val := by rw [← hv_vo]; exact own_and3 _
  refine OGo.on (fun t k => XS.bipush X0.here hx rfl (hb hby at_5) k) ?_
  show OGo p e below s _ _ _ (s₁.setTop (mkF m 7 #[.val (.long vv), .second, .val (.int vseed), .val (.long vj), .second, .val (.int vo), .unset] [(.int (11 : Int32))]))
  obtain ⟨T1, h1, k1, X1, e1, E1, A1, st1⟩ := newP X0 hx hZ (hw _ (List.mem_of_getElem? (i := 0) rfl)) e0 (g := (mkF m 7 #[.val (.long vv), .second, .val (.int vseed), .val (.long vj), .second, .val (.int vo), .unset] [(.int (11 : Int32))])) rfl (hb hby at_7) rfl (by decide) (cap := 11) (by decide) (by decide) (by decide) (by decide)
  obtain ⟨b1, g1⟩ : ∃ z, z = h0.size := ⟨_, rfl⟩
  rw [← g1] at A1 st1
  have ge2 : n0 ≤ b1 := Nat.le_trans Z0 (Nat.le_of_eq g1.symm)
  have Z3 : n0 ≤ h1.size := Nat.le_trans Z0 E1.1
  have V1 : OAL Z h1 b1 .byte [(0 : Int32), (0 : Int32), (0 : Int32), (0 : Int32), (0 : Int32), (0 : Int32), (0 : Int32), (0 : Int32), (0 : Int32), (0 : Int32), (0 : Int32)] := OAL.new A1 rfl
  refine OGo.on st1 ?_
  show OGo p e below s _ _ _ (T1.setTop (mkF m 9 #[.val (.long vv), .second, .val (.int vseed), .val (.long vj), .second, .val (.int vo), .unset] [(.ref b1)]))
  refine OGo.on (fun t k => XS.astore X1.here hx rfl (hb hby at_9) rfl rfl (l' := #[.val (.long vv), .second, .val (.int vseed), .val (.long vj), .second, .val (.int vo), .val (.ref b1)]) rfl k) ?_
  show OGo p e below s _ _ _ (T1.setTop (mkF m 11 #[.val (.long vv), .second, .val (.int vseed), .val (.long vj), .second, .val (.int vo), .val (.ref b1)] []))
  refine OGo.on (fun t k => XS.aload X1.here hx rfl (hb hby at_11) rfl rfl k) ?_
  show OGo p e below s _ _ _ (T1.setTop (mkF m 13 #[.val (.long vv), .second, .val (.int vseed), .val (.long vj), .second, .val (.int vo), .val (.ref b1)] [(.ref b1)]))
  refine OGo.on (fun t k => XS.iconst X1.here hx rfl (hb hby at_13) k) ?_
  show OGo p e below s _ _ _ (T1.setTop (mkF m 14 #[.val (.long vv), .second, .val (.int vseed), .val (.long vj), .second, .val (.int vo), .val (.ref b1)] [(.int (0 : Int32)), (.ref b1)]))
  refine OGo.on (fun t k => XS.lloadN X1.here hx rfl (hb hby at_14) rfl k) ?_
  show OGo p e below s _ _ _ (T1.setTop (mkF m 15 #[.val (.long vv), .second, .val (.int vseed), .val (.long vj), .second, .val (.int vo), .val (.ref b1)] [(.long vj), (.int (0 : Int32)), (.ref b1)]))
  refine OGo.on (fun t k => XS.l2i X1.here hx rfl (hb hby at_15) rfl k) ?_
  show OGo p e below s _ _ _ (T1.setTop (mkF m 16 #[.val (.long vv), .second, .val (.int vseed), .val (.long vj), .second, .val (.int vo), .val (.ref b1)] [(.int (vj.toInt32)), (.int (0 : Int32)), (.ref b1)]))
  refine OGo.on (fun t k => XS.i2b X1.here hx rfl (hb hby at_16) rfl k) ?_
  show OGo p e below s _ _ _ (T1.setTop (mkF m 17 #[.val (.long vv), .second, .val (.int vseed), .val (.long vj), .second, .val (.int vo), .val (.ref b1)] [(.int ((vj.toInt32).toInt8.toInt32)), (.int (0 : Int32)), (.ref b1)]))
  generalize hv_f0 : ((vj.toInt32).toInt8.toInt32) = f0
  show OGo p e below s _ _ _ (T1.setTop (mkF m 17 #[.val (.long vv), .second, .val (.int vseed), .val (.long vj), .second, .val (.int vo), .val (.ref b1)] [(.int f0), (.int (0 : Int32)), (.ref b1)]))
  obtain ⟨T4, h4, X4, e4, W4, A4, st4⟩ := OAL.stB X1 hx hZ e1 V1 (j := (0 : Int32)) (x := f0) (by decide) (by decide : 0 < 11) (Ls := #[.val (.long vv), .second, .val (.int vseed), .val (.long vj), .second, .val (.int vo), .val (.ref b1)]) (rest := []) (hb hby at_17)
  have Z5 : n0 ≤ h4.size := Nat.le_trans Z3 (Nat.le_of_eq W4.size.symm)
  have N6 := Fr.snoc X4 N0 ge2
  have V4 : OAL Z h4 b1 .byte [(nar .byte f0), (0 : Int32), (0 : Int32), (0 : Int32), (0 : Int32), (0 : Int32), (0 : Int32), (0 : Int32), (0 : Int32), (0 : Int32), (0 : Int32)] := A4
  refine OGo.on st4 ?_
  show OGo p e below s _ _ _ (T4.setTop (mkF m 18 #[.val (.long vv), .second, .val (.int vseed), .val (.long vj), .second, .val (.int vo), .val (.ref b1)] []))
  refine OGo.on (fun t k => XS.aload X4.here hx rfl (hb hby at_18) rfl rfl k) ?_
  show OGo p e below s _ _ _ (T4.setTop (mkF m 20 #[.val (.long vv), .second, .val (.int vseed), .val (.long vj), .second, .val (.int vo), .val (.ref b1)] [(.ref b1)]))
  refine OGo.on (fun t k => XS.iconst X4.here hx rfl (hb hby at_20) k) ?_
  show OGo p e below s _ _ _ (T4.setTop (mkF m 21 #[.val (.long vv), .second, .val (.int vseed), .val (.long vj), .second, .val (.int vo), .val (.ref b1)] [(.int (1 : Int32)), (.ref b1)]))
  refine OGo.on (fun t k => XS.lloadN X4.here hx rfl (hb hby at_21) rfl k) ?_
  show OGo p e below s _ _ _ (T4.setTop (mkF m 22 #[.val (.long vv), .second, .val (.int vseed), .val (.long vj), .second, .val (.int vo), .val (.ref b1)] [(.long vj), (.int (1 : Int32)), (.ref b1)]))
  refine OGo.on (fun t k => XS.bipush X4.here hx rfl (hb hby at_22) k) ?_
  show OGo p e below s _ _ _ (T4.setTop (mkF m 24 #[.val (.long vv), .second, .val (.int vseed), .val (.long vj), .second, .val (.int vo), .val (.ref b1)] [(.int (8 : Int32)), (.long vj), (.int (1 : Int32)), (.ref b1)]))
  refine OGo.on (fun t k => XS.lushr X4.here hx rfl (hb hby at_24) rfl k) ?_
  show OGo p e below s _ _ _ (T4.setTop (mkF m 25 #[.val (.long vv), .second, .val (.int vseed), .val (.long vj), .second, .val (.int vo), .val (.ref b1)] [(.long ((vj.toUInt64 >>> ((8 : Int32) &&& 0x3f).toInt64.toUInt64).toInt64)), (.int (1 : Int32)), (.ref b1)]))
  refine OGo.on (fun t k => XS.l2i X4.here hx rfl (hb hby at_25) rfl k) ?_
  show OGo p e below s _ _ _ (T4.setTop (mkF m 26 #[.val (.long vv), .second, .val (.int vseed), .val (.long vj), .second, .val (.int vo), .val (.ref b1)] [(.int (((vj.toUInt64 >>> ((8 : Int32) &&& 0x3f).toInt64.toUInt64).toInt64).toInt32)), (.int (1 : Int32)), (.ref b1)]))
  refine OGo.on (fun t k => XS.i2b X4.here hx rfl (hb hby at_26) rfl k) ?_
  show OGo p e below s _ _ _ (T4.setTop (mkF m 27 #[.val (.long vv), .second, .val (.int vseed), .val (.long vj), .second, .val (.int vo), .val (.ref b1)] [(.int ((((vj.toUInt64 >>> ((8 : Int32) &&& 0x3f).toInt64.toUInt64).toInt64).toInt32).toInt8.toInt32)), (.int (1 : Int32)), (.ref b1)]))
  generalize hv_f1 : ((((vj.toUInt64 >>> ((8 : Int32) &&& 0x3f).toInt64.toUInt64).toInt64).toInt32).toInt8.toInt32) = f1
  show OGo p e below s _ _ _ (T4.setTop (mkF m 27 #[.val (.long vv), .second, .val (.int vseed), .val (.long vj), .second, .val (.int vo), .val (.ref b1)] [(.int f1), (.int (1 : Int32)), (.ref b1)]))
  obtain ⟨T7, h7, X7, e7, W7, A7, st7⟩ := OAL.stB X4 hx hZ e4 V4 (j := (1 : Int32)) (x := f1) (by decide) (by decide : 1 < 11) (Ls := #[.val (.long vv), .second, .val (.int vseed), .val (.long vj), .second, .val (.int vo), .val (.ref b1)]) (rest := []) (hb hby at_27)
  have Z8 : n0 ≤ h7.size := Nat.le_trans Z5 (Nat.le_of_eq W7.size.symm)
  have N9 := Fr.snoc X7 N6 ge2
  have V7 : OAL Z h7 b1 .byte [(nar .byte f0), (nar .byte f1), (0 : Int32), (0 : Int32), (0 : Int32), (0 : Int32), (0 : Int32), (0 : Int32), (0 : Int32), (0 : Int32), (0 : Int32)] := A7
  refine OGo.on st7 ?_
  show OGo p e below s _ _ _ (T7.setTop (mkF m 28 #[.val (.long vv), .second, .val (.int vseed), .val (.long vj), .second, .val (.int vo), .val (.ref b1)] []))
  refine OGo.on (fun t k => XS.aload X7.here hx rfl (hb hby at_28) rfl rfl k) ?_
  show OGo p e below s _ _ _ (T7.setTop (mkF m 30 #[.val (.long vv), .second, .val (.int vseed), .val (.long vj), .second, .val (.int vo), .val (.ref b1)] [(.ref b1)]))
  refine OGo.on (fun t k => XS.iconst X7.here hx rfl (hb hby at_30) k) ?_
  show OGo p e below s _ _ _ (T7.setTop (mkF m 31 #[.val (.long vv), .second, .val (.int vseed), .val (.long vj), .second, .val (.int vo), .val (.ref b1)] [(.int (2 : Int32)), (.ref b1)]))
  refine OGo.on (fun t k => XS.lloadN X7.here hx rfl (hb hby at_31) rfl k) ?_
  show OGo p e below s _ _ _ (T7.setTop (mkF m 32 #[.val (.long vv), .second, .val (.int vseed), .val (.long vj), .second, .val (.int vo), .val (.ref b1)] [(.long vj), (.int (2 : Int32)), (.ref b1)]))
  refine OGo.on (fun t k => XS.bipush X7.here hx rfl (hb hby at_32) k) ?_
  show OGo p e below s _ _ _ (T7.setTop (mkF m 34 #[.val (.long vv), .second, .val (.int vseed), .val (.long vj), .second, .val (.int vo), .val (.ref b1)] [(.int (16 : Int32)), (.long vj), (.int (2 : Int32)), (.ref b1)]))
  refine OGo.on (fun t k => XS.lushr X7.here hx rfl (hb hby at_34) rfl k) ?_
  show OGo p e below s _ _ _ (T7.setTop (mkF m 35 #[.val (.long vv), .second, .val (.int vseed), .val (.long vj), .second, .val (.int vo), .val (.ref b1)] [(.long ((vj.toUInt64 >>> ((16 : Int32) &&& 0x3f).toInt64.toUInt64).toInt64)), (.int (2 : Int32)), (.ref b1)]))
  refine OGo.on (fun t k => XS.l2i X7.here hx rfl (hb hby at_35) rfl k) ?_
  show OGo p e below s _ _ _ (T7.setTop (mkF m 36 #[.val (.long vv), .second, .val (.int vseed), .val (.long vj), .second, .val (.int vo), .val (.ref b1)] [(.int (((vj.toUInt64 >>> ((16 : Int32) &&& 0x3f).toInt64.toUInt64).toInt64).toInt32)), (.int (2 : Int32)), (.ref b1)]))
  refine OGo.on (fun t k => XS.i2b X7.here hx rfl (hb hby at_36) rfl k) ?_
  show OGo p e below s _ _ _ (T7.setTop (mkF m 37 #[.val (.long vv), .second, .val (.int vseed), .val (.long vj), .second, .val (.int vo), .val (.ref b1)] [(.int ((((vj.toUInt64 >>> ((16 : Int32) &&& 0x3f).toInt64.toUInt64).toInt64).toInt32).toInt8.toInt32)), (.int (2 : Int32)), (.ref b1)]))
  generalize hv_f2 : ((((vj.toUInt64 >>> ((16 : Int32) &&& 0x3f).toInt64.toUInt64).toInt64).toInt32).toInt8.toInt32) = f2
  show OGo p e below s _ _ _ (T7.setTop (mkF m 37 #[.val (.long vv), .second, .val (.int vseed), .val (.long vj), .second, .val (.int vo), .val (.ref b1)] [(.int f2), (.int (2 : Int32)), (.ref b1)]))
  obtain ⟨T10, h10, X10, e10, W10, A10, st10⟩ := OAL.stB X7 hx hZ e7 V7 (j := (2 : Int32)) (x := f2) (by decide) (by decide : 2 < 11) (Ls := #[.val (.long vv), .second, .val (.int vseed), .val (.long vj), .second, .val (.int vo), .val (.ref b1)]) (rest := []) (hb hby at_37)
  have Z11 : n0 ≤ h10.size := Nat.le_trans Z8 (Nat.le_of_eq W10.size.symm)
  have N12 := Fr.snoc X10 N9 ge2
  have V10 : OAL Z h10 b1 .byte [(nar .byte f0), (nar .byte f1), (nar .byte f2), (0 : Int32), (0 : Int32), (0 : Int32), (0 : Int32), (0 : Int32), (0 : Int32), (0 : Int32), (0 : Int32)] := A10
  refine OGo.on st10 ?_
  show OGo p e below s _ _ _ (T10.setTop (mkF m 38 #[.val (.long vv), .second, .val (.int vseed), .val (.long vj), .second, .val (.int vo), .val (.ref b1)] []))
  refine OGo.on (fun t k => XS.aload X10.here hx rfl (hb hby at_38) rfl rfl k) ?_
  show OGo p e below s _ _ _ (T10.setTop (mkF m 40 #[.val (.long vv), .second, .val (.int vseed), .val (.long vj), .second, .val (.int vo), .val (.ref b1)] [(.ref b1)]))
  refine OGo.on (fun t k => XS.iconst X10.here hx rfl (hb hby at_40) k) ?_
  show OGo p e below s _ _ _ (T10.setTop (mkF m 41 #[.val (.long vv), .second, .val (.int vseed), .val (.long vj), .second, .val (.int vo), .val (.ref b1)] [(.int (3 : Int32)), (.ref b1)]))
  refine OGo.on (fun t k => XS.lloadN X10.here hx rfl (hb hby at_41) rfl k) ?_
  show OGo p e below s _ _ _ (T10.setTop (mkF m 42 #[.val (.long vv), .second, .val (.int vseed), .val (.long vj), .second, .val (.int vo), .val (.ref b1)] [(.long vj), (.int (3 : Int32)), (.ref b1)]))
  refine OGo.on (fun t k => XS.bipush X10.here hx rfl (hb hby at_42) k) ?_
  show OGo p e below s _ _ _ (T10.setTop (mkF m 44 #[.val (.long vv), .second, .val (.int vseed), .val (.long vj), .second, .val (.int vo), .val (.ref b1)] [(.int (24 : Int32)), (.long vj), (.int (3 : Int32)), (.ref b1)]))
  refine OGo.on (fun t k => XS.lushr X10.here hx rfl (hb hby at_44) rfl k) ?_
  show OGo p e below s _ _ _ (T10.setTop (mkF m 45 #[.val (.long vv), .second, .val (.int vseed), .val (.long vj), .second, .val (.int vo), .val (.ref b1)] [(.long ((vj.toUInt64 >>> ((24 : Int32) &&& 0x3f).toInt64.toUInt64).toInt64)), (.int (3 : Int32)), (.ref b1)]))
  refine OGo.on (fun t k => XS.l2i X10.here hx rfl (hb hby at_45) rfl k) ?_
  show OGo p e below s _ _ _ (T10.setTop (mkF m 46 #[.val (.long vv), .second, .val (.int vseed), .val (.long vj), .second, .val (.int vo), .val (.ref b1)] [(.int (((vj.toUInt64 >>> ((24 : Int32) &&& 0x3f).toInt64.toUInt64).toInt64).toInt32)), (.int (3 : Int32)), (.ref b1)]))
  refine OGo.on (fun t k => XS.i2b X10.here hx rfl (hb hby at_46) rfl k) ?_
  show OGo p e below s _ _ _ (T10.setTop (mkF m 47 #[.val (.long vv), .second, .val (.int vseed), .val (.long vj), .second, .val (.int vo), .val (.ref b1)] [(.int ((((vj.toUInt64 >>> ((24 : Int32) &&& 0x3f).toInt64.toUInt64).toInt64).toInt32).toInt8.toInt32)), (.int (3 : Int32)), (.ref b1)]))
  generalize hv_f3 : ((((vj.toUInt64 >>> ((24 : Int32) &&& 0x3f).toInt64.toUInt64).toInt64).toInt32).toInt8.toInt32) = f3
  show OGo p e below s _ _ _ (T10.setTop (mkF m 47 #[.val (.long vv), .second, .val (.int vseed), .val (.long vj), .second, .val (.int vo), .val (.ref b1)] [(.int f3), (.int (3 : Int32)), (.ref b1)]))
  obtain ⟨T13, h13, X13, e13, W13, A13, st13⟩ := OAL.stB X10 hx hZ e10 V10 (j := (3 : Int32)) (x := f3) (by decide) (by decide : 3 < 11) (Ls := #[.val (.long vv), .second, .val (.int vseed), .val (.long vj), .second, .val (.int vo), .val (.ref b1)]) (rest := []) (hb hby at_47)
  have Z14 : n0 ≤ h13.size := Nat.le_trans Z11 (Nat.le_of_eq W13.size.symm)
  have N15 := Fr.snoc X13 N12 ge2
  have V13 : OAL Z h13 b1 .byte [(nar .byte f0), (nar .byte f1), (nar .byte f2), (nar .byte f3), (0 : Int32), (0 : Int32), (0 : Int32), (0 : Int32), (0 : Int32), (0 : Int32), (0 : Int32)] := A13
  refine OGo.on st13 ?_
  show OGo p e below s _ _ _ (T13.setTop (mkF m 48 #[.val (.long vv), .second, .val (.int vseed), .val (.long vj), .second, .val (.int vo), .val (.ref b1)] []))
  refine OGo.on (fun t k => XS.aload X13.here hx rfl (hb hby at_48) rfl rfl k) ?_
  show OGo p e below s _ _ _ (T13.setTop (mkF m 50 #[.val (.long vv), .second, .val (.int vseed), .val (.long vj), .second, .val (.int vo), .val (.ref b1)] [(.ref b1)]))
  refine OGo.on (fun t k => XS.iconst X13.here hx rfl (hb hby at_50) k) ?_
  show OGo p e below s _ _ _ (T13.setTop (mkF m 51 #[.val (.long vv), .second, .val (.int vseed), .val (.long vj), .second, .val (.int vo), .val (.ref b1)] [(.int (4 : Int32)), (.ref b1)]))
  refine OGo.on (fun t k => XS.lloadN X13.here hx rfl (hb hby at_51) rfl k) ?_
  show OGo p e below s _ _ _ (T13.setTop (mkF m 52 #[.val (.long vv), .second, .val (.int vseed), .val (.long vj), .second, .val (.int vo), .val (.ref b1)] [(.long vj), (.int (4 : Int32)), (.ref b1)]))
  refine OGo.on (fun t k => XS.bipush X13.here hx rfl (hb hby at_52) k) ?_
  show OGo p e below s _ _ _ (T13.setTop (mkF m 54 #[.val (.long vv), .second, .val (.int vseed), .val (.long vj), .second, .val (.int vo), .val (.ref b1)] [(.int (32 : Int32)), (.long vj), (.int (4 : Int32)), (.ref b1)]))
  refine OGo.on (fun t k => XS.lushr X13.here hx rfl (hb hby at_54) rfl k) ?_
  show OGo p e below s _ _ _ (T13.setTop (mkF m 55 #[.val (.long vv), .second, .val (.int vseed), .val (.long vj), .second, .val (.int vo), .val (.ref b1)] [(.long ((vj.toUInt64 >>> ((32 : Int32) &&& 0x3f).toInt64.toUInt64).toInt64)), (.int (4 : Int32)), (.ref b1)]))
  refine OGo.on (fun t k => XS.l2i X13.here hx rfl (hb hby at_55) rfl k) ?_
  show OGo p e below s _ _ _ (T13.setTop (mkF m 56 #[.val (.long vv), .second, .val (.int vseed), .val (.long vj), .second, .val (.int vo), .val (.ref b1)] [(.int (((vj.toUInt64 >>> ((32 : Int32) &&& 0x3f).toInt64.toUInt64).toInt64).toInt32)), (.int (4 : Int32)), (.ref b1)]))
  refine OGo.on (fun t k => XS.i2b X13.here hx rfl (hb hby at_56) rfl k) ?_
  show OGo p e below s _ _ _ (T13.setTop (mkF m 57 #[.val (.long vv), .second, .val (.int vseed), .val (.long vj), .second, .val (.int vo), .val (.ref b1)] [(.int ((((vj.toUInt64 >>> ((32 : Int32) &&& 0x3f).toInt64.toUInt64).toInt64).toInt32).toInt8.toInt32)), (.int (4 : Int32)), (.ref b1)]))
  generalize hv_f4 : ((((vj.toUInt64 >>> ((32 : Int32) &&& 0x3f).toInt64.toUInt64).toInt64).toInt32).toInt8.toInt32) = f4
  show OGo p e below s _ _ _ (T13.setTop (mkF m 57 #[.val (.long vv), .second, .val (.int vseed), .val (.long vj), .second, .val (.int vo), .val (.ref b1)] [(.int f4), (.int (4 : Int32)), (.ref b1)]))
  obtain ⟨T16, h16, X16, e16, W16, A16, st16⟩ := OAL.stB X13 hx hZ e13 V13 (j := (4 : Int32)) (x := f4) (by decide) (by decide : 4 < 11) (Ls := #[.val (.long vv), .second, .val (.int vseed), .val (.long vj), .second, .val (.int vo), .val (.ref b1)]) (rest := []) (hb hby at_57)
  have Z17 : n0 ≤ h16.size := Nat.le_trans Z14 (Nat.le_of_eq W16.size.symm)
  have N18 := Fr.snoc X16 N15 ge2
  have V16 : OAL Z h16 b1 .byte [(nar .byte f0), (nar .byte f1), (nar .byte f2), (nar .byte f3), (nar .byte f4), (0 : Int32), (0 : Int32), (0 : Int32), (0 : Int32), (0 : Int32), (0 : Int32)] := A16
  refine OGo.on st16 ?_
  show OGo p e below s _ _ _ (T16.setTop (mkF m 58 #[.val (.long vv), .second, .val (.int vseed), .val (.long vj), .second, .val (.int vo), .val (.ref b1)] []))
  refine OGo.on (fun t k => XS.aload X16.here hx rfl (hb hby at_58) rfl rfl k) ?_
  show OGo p e below s _ _ _ (T16.setTop (mkF m 60 #[.val (.long vv), .second, .val (.int vseed), .val (.long vj), .second, .val (.int vo), .val (.ref b1)] [(.ref b1)]))
  refine OGo.on (fun t k => XS.iconst X16.here hx rfl (hb hby at_60) k) ?_
  show OGo p e below s _ _ _ (T16.setTop (mkF m 61 #[.val (.long vv), .second, .val (.int vseed), .val (.long vj), .second, .val (.int vo), .val (.ref b1)] [(.int (5 : Int32)), (.ref b1)]))
  refine OGo.on (fun t k => XS.lloadN X16.here hx rfl (hb hby at_61) rfl k) ?_
  show OGo p e below s _ _ _ (T16.setTop (mkF m 62 #[.val (.long vv), .second, .val (.int vseed), .val (.long vj), .second, .val (.int vo), .val (.ref b1)] [(.long vj), (.int (5 : Int32)), (.ref b1)]))
  refine OGo.on (fun t k => XS.bipush X16.here hx rfl (hb hby at_62) k) ?_
  show OGo p e below s _ _ _ (T16.setTop (mkF m 64 #[.val (.long vv), .second, .val (.int vseed), .val (.long vj), .second, .val (.int vo), .val (.ref b1)] [(.int (40 : Int32)), (.long vj), (.int (5 : Int32)), (.ref b1)]))
  refine OGo.on (fun t k => XS.lushr X16.here hx rfl (hb hby at_64) rfl k) ?_
  show OGo p e below s _ _ _ (T16.setTop (mkF m 65 #[.val (.long vv), .second, .val (.int vseed), .val (.long vj), .second, .val (.int vo), .val (.ref b1)] [(.long ((vj.toUInt64 >>> ((40 : Int32) &&& 0x3f).toInt64.toUInt64).toInt64)), (.int (5 : Int32)), (.ref b1)]))
  refine OGo.on (fun t k => XS.l2i X16.here hx rfl (hb hby at_65) rfl k) ?_
  show OGo p e below s _ _ _ (T16.setTop (mkF m 66 #[.val (.long vv), .second, .val (.int vseed), .val (.long vj), .second, .val (.int vo), .val (.ref b1)] [(.int (((vj.toUInt64 >>> ((40 : Int32) &&& 0x3f).toInt64.toUInt64).toInt64).toInt32)), (.int (5 : Int32)), (.ref b1)]))
  refine OGo.on (fun t k => XS.i2b X16.here hx rfl (hb hby at_66) rfl k) ?_
  show OGo p e below s _ _ _ (T16.setTop (mkF m 67 #[.val (.long vv), .second, .val (.int vseed), .val (.long vj), .second, .val (.int vo), .val (.ref b1)] [(.int ((((vj.toUInt64 >>> ((40 : Int32) &&& 0x3f).toInt64.toUInt64).toInt64).toInt32).toInt8.toInt32)), (.int (5 : Int32)), (.ref b1)]))
  generalize hv_f5 : ((((vj.toUInt64 >>> ((40 : Int32) &&& 0x3f).toInt64.toUInt64).toInt64).toInt32).toInt8.toInt32) = f5
  show OGo p e below s _ _ _ (T16.setTop (mkF m 67 #[.val (.long vv), .second, .val (.int vseed), .val (.long vj), .second, .val (.int vo), .val (.ref b1)] [(.int f5), (.int (5 : Int32)), (.ref b1)]))
  obtain ⟨T19, h19, X19, e19, W19, A19, st19⟩ := OAL.stB X16 hx hZ e16 V16 (j := (5 : Int32)) (x := f5) (by decide) (by decide : 5 < 11) (Ls := #[.val (.long vv), .second, .val (.int vseed), .val (.long vj), .second, .val (.int vo), .val (.ref b1)]) (rest := []) (hb hby at_67)
  have Z20 : n0 ≤ h19.size := Nat.le_trans Z17 (Nat.le_of_eq W19.size.symm)
  have N21 := Fr.snoc X19 N18 ge2
  have V19 : OAL Z h19 b1 .byte [(nar .byte f0), (nar .byte f1), (nar .byte f2), (nar .byte f3), (nar .byte f4), (nar .byte f5), (0 : Int32), (0 : Int32), (0 : Int32), (0 : Int32), (0 : Int32)] := A19
  refine OGo.on st19 ?_
  show OGo p e below s _ _ _ (T19.setTop (mkF m 68 #[.val (.long vv), .second, .val (.int vseed), .val (.long vj), .second, .val (.int vo), .val (.ref b1)] []))
  refine OGo.on (fun t k => XS.aload X19.here hx rfl (hb hby at_68) rfl rfl k) ?_
  show OGo p e below s _ _ _ (T19.setTop (mkF m 70 #[.val (.long vv), .second, .val (.int vseed), .val (.long vj), .second, .val (.int vo), .val (.ref b1)] [(.ref b1)]))
  refine OGo.on (fun t k => XS.bipush X19.here hx rfl (hb hby at_70) k) ?_
  show OGo p e below s _ _ _ (T19.setTop (mkF m 72 #[.val (.long vv), .second, .val (.int vseed), .val (.long vj), .second, .val (.int vo), .val (.ref b1)] [(.int (6 : Int32)), (.ref b1)]))
  refine OGo.on (fun t k => XS.lloadN X19.here hx rfl (hb hby at_72) rfl k) ?_
  show OGo p e below s _ _ _ (T19.setTop (mkF m 73 #[.val (.long vv), .second, .val (.int vseed), .val (.long vj), .second, .val (.int vo), .val (.ref b1)] [(.long vj), (.int (6 : Int32)), (.ref b1)]))
  refine OGo.on (fun t k => XS.bipush X19.here hx rfl (hb hby at_73) k) ?_
  show OGo p e below s _ _ _ (T19.setTop (mkF m 75 #[.val (.long vv), .second, .val (.int vseed), .val (.long vj), .second, .val (.int vo), .val (.ref b1)] [(.int (48 : Int32)), (.long vj), (.int (6 : Int32)), (.ref b1)]))
  refine OGo.on (fun t k => XS.lushr X19.here hx rfl (hb hby at_75) rfl k) ?_
  show OGo p e below s _ _ _ (T19.setTop (mkF m 76 #[.val (.long vv), .second, .val (.int vseed), .val (.long vj), .second, .val (.int vo), .val (.ref b1)] [(.long ((vj.toUInt64 >>> ((48 : Int32) &&& 0x3f).toInt64.toUInt64).toInt64)), (.int (6 : Int32)), (.ref b1)]))
  refine OGo.on (fun t k => XS.l2i X19.here hx rfl (hb hby at_76) rfl k) ?_
  show OGo p e below s _ _ _ (T19.setTop (mkF m 77 #[.val (.long vv), .second, .val (.int vseed), .val (.long vj), .second, .val (.int vo), .val (.ref b1)] [(.int (((vj.toUInt64 >>> ((48 : Int32) &&& 0x3f).toInt64.toUInt64).toInt64).toInt32)), (.int (6 : Int32)), (.ref b1)]))
  refine OGo.on (fun t k => XS.i2b X19.here hx rfl (hb hby at_77) rfl k) ?_
  show OGo p e below s _ _ _ (T19.setTop (mkF m 78 #[.val (.long vv), .second, .val (.int vseed), .val (.long vj), .second, .val (.int vo), .val (.ref b1)] [(.int ((((vj.toUInt64 >>> ((48 : Int32) &&& 0x3f).toInt64.toUInt64).toInt64).toInt32).toInt8.toInt32)), (.int (6 : Int32)), (.ref b1)]))
  generalize hv_f6 : ((((vj.toUInt64 >>> ((48 : Int32) &&& 0x3f).toInt64.toUInt64).toInt64).toInt32).toInt8.toInt32) = f6
  show OGo p e below s _ _ _ (T19.setTop (mkF m 78 #[.val (.long vv), .second, .val (.int vseed), .val (.long vj), .second, .val (.int vo), .val (.ref b1)] [(.int f6), (.int (6 : Int32)), (.ref b1)]))
  obtain ⟨T22, h22, X22, e22, W22, A22, st22⟩ := OAL.stB X19 hx hZ e19 V19 (j := (6 : Int32)) (x := f6) (by decide) (by decide : 6 < 11) (Ls := #[.val (.long vv), .second, .val (.int vseed), .val (.long vj), .second, .val (.int vo), .val (.ref b1)]) (rest := []) (hb hby at_78)
  have Z23 : n0 ≤ h22.size := Nat.le_trans Z20 (Nat.le_of_eq W22.size.symm)
  have N24 := Fr.snoc X22 N21 ge2
  have V22 : OAL Z h22 b1 .byte [(nar .byte f0), (nar .byte f1), (nar .byte f2), (nar .byte f3), (nar .byte f4), (nar .byte f5), (nar .byte f6), (0 : Int32), (0 : Int32), (0 : Int32), (0 : Int32)] := A22
  refine OGo.on st22 ?_
  show OGo p e below s _ _ _ (T22.setTop (mkF m 79 #[.val (.long vv), .second, .val (.int vseed), .val (.long vj), .second, .val (.int vo), .val (.ref b1)] []))
  refine OGo.on (fun t k => XS.aload X22.here hx rfl (hb hby at_79) rfl rfl k) ?_
  show OGo p e below s _ _ _ (T22.setTop (mkF m 81 #[.val (.long vv), .second, .val (.int vseed), .val (.long vj), .second, .val (.int vo), .val (.ref b1)] [(.ref b1)]))
  refine OGo.on (fun t k => XS.bipush X22.here hx rfl (hb hby at_81) k) ?_
  show OGo p e below s _ _ _ (T22.setTop (mkF m 83 #[.val (.long vv), .second, .val (.int vseed), .val (.long vj), .second, .val (.int vo), .val (.ref b1)] [(.int (7 : Int32)), (.ref b1)]))
  refine OGo.on (fun t k => XS.lloadN X22.here hx rfl (hb hby at_83) rfl k) ?_
  show OGo p e below s _ _ _ (T22.setTop (mkF m 84 #[.val (.long vv), .second, .val (.int vseed), .val (.long vj), .second, .val (.int vo), .val (.ref b1)] [(.long vj), (.int (7 : Int32)), (.ref b1)]))
  refine OGo.on (fun t k => XS.bipush X22.here hx rfl (hb hby at_84) k) ?_
  show OGo p e below s _ _ _ (T22.setTop (mkF m 86 #[.val (.long vv), .second, .val (.int vseed), .val (.long vj), .second, .val (.int vo), .val (.ref b1)] [(.int (56 : Int32)), (.long vj), (.int (7 : Int32)), (.ref b1)]))
  refine OGo.on (fun t k => XS.lushr X22.here hx rfl (hb hby at_86) rfl k) ?_
  show OGo p e below s _ _ _ (T22.setTop (mkF m 87 #[.val (.long vv), .second, .val (.int vseed), .val (.long vj), .second, .val (.int vo), .val (.ref b1)] [(.long ((vj.toUInt64 >>> ((56 : Int32) &&& 0x3f).toInt64.toUInt64).toInt64)), (.int (7 : Int32)), (.ref b1)]))
  refine OGo.on (fun t k => XS.l2i X22.here hx rfl (hb hby at_87) rfl k) ?_
  show OGo p e below s _ _ _ (T22.setTop (mkF m 88 #[.val (.long vv), .second, .val (.int vseed), .val (.long vj), .second, .val (.int vo), .val (.ref b1)] [(.int (((vj.toUInt64 >>> ((56 : Int32) &&& 0x3f).toInt64.toUInt64).toInt64).toInt32)), (.int (7 : Int32)), (.ref b1)]))
  refine OGo.on (fun t k => XS.i2b X22.here hx rfl (hb hby at_88) rfl k) ?_
  show OGo p e below s _ _ _ (T22.setTop (mkF m 89 #[.val (.long vv), .second, .val (.int vseed), .val (.long vj), .second, .val (.int vo), .val (.ref b1)] [(.int ((((vj.toUInt64 >>> ((56 : Int32) &&& 0x3f).toInt64.toUInt64).toInt64).toInt32).toInt8.toInt32)), (.int (7 : Int32)), (.ref b1)]))
  generalize hv_f7 : ((((vj.toUInt64 >>> ((56 : Int32) &&& 0x3f).toInt64.toUInt64).toInt64).toInt32).toInt8.toInt32) = f7
  show OGo p e below s _ _ _ (T22.setTop (mkF m 89 #[.val (.long vv), .second, .val (.int vseed), .val (.long vj), .second, .val (.int vo), .val (.ref b1)] [(.int f7), (.int (7 : Int32)), (.ref b1)]))
  obtain ⟨T25, h25, X25, e25, W25, A25, st25⟩ := OAL.stB X22 hx hZ e22 V22 (j := (7 : Int32)) (x := f7) (by decide) (by decide : 7 < 11) (Ls := #[.val (.long vv), .second, .val (.int vseed), .val (.long vj), .second, .val (.int vo), .val (.ref b1)]) (rest := []) (hb hby at_89)
  have Z26 : n0 ≤ h25.size := Nat.le_trans Z23 (Nat.le_of_eq W25.size.symm)
  have N27 := Fr.snoc X25 N24 ge2
  have V25 : OAL Z h25 b1 .byte [(nar .byte f0), (nar .byte f1), (nar .byte f2), (nar .byte f3), (nar .byte f4), (nar .byte f5), (nar .byte f6), (nar .byte f7), (0 : Int32), (0 : Int32), (0 : Int32)] := A25
  refine OGo.on st25 ?_
  show OGo p e below s _ _ _ (T25.setTop (mkF m 90 #[.val (.long vv), .second, .val (.int vseed), .val (.long vj), .second, .val (.int vo), .val (.ref b1)] []))
  refine OGo.on (fun t k => XS.aload X25.here hx rfl (hb hby at_90) rfl rfl k) ?_
  show OGo p e below s _ _ _ (T25.setTop (mkF m 92 #[.val (.long vv), .second, .val (.int vseed), .val (.long vj), .second, .val (.int vo), .val (.ref b1)] [(.ref b1)]))
  refine OGo.on (fun t k => XS.bipush X25.here hx rfl (hb hby at_92) k) ?_
  show OGo p e below s _ _ _ (T25.setTop (mkF m 94 #[.val (.long vv), .second, .val (.int vseed), .val (.long vj), .second, .val (.int vo), .val (.ref b1)] [(.int (8 : Int32)), (.ref b1)]))
  refine OGo.on (fun t k => XS.lloadN X25.here hx rfl (hb hby at_94) rfl k) ?_
  show OGo p e below s _ _ _ (T25.setTop (mkF m 95 #[.val (.long vv), .second, .val (.int vseed), .val (.long vj), .second, .val (.int vo), .val (.ref b1)] [(.long vj), (.int (8 : Int32)), (.ref b1)]))
  refine OGo.on (fun t k => XS.iconst X25.here hx rfl (hb hby at_95) k) ?_
  show OGo p e below s _ _ _ (T25.setTop (mkF m 96 #[.val (.long vv), .second, .val (.int vseed), .val (.long vj), .second, .val (.int vo), .val (.ref b1)] [(.int (3 : Int32)), (.long vj), (.int (8 : Int32)), (.ref b1)]))
  refine OGo.on (fun t k => XS.lushr X25.here hx rfl (hb hby at_96) rfl k) ?_
  show OGo p e below s _ _ _ (T25.setTop (mkF m 97 #[.val (.long vv), .second, .val (.int vseed), .val (.long vj), .second, .val (.int vo), .val (.ref b1)] [(.long ((vj.toUInt64 >>> ((3 : Int32) &&& 0x3f).toInt64.toUInt64).toInt64)), (.int (8 : Int32)), (.ref b1)]))
  refine OGo.on (fun t k => XS.l2i X25.here hx rfl (hb hby at_97) rfl k) ?_
  show OGo p e below s _ _ _ (T25.setTop (mkF m 98 #[.val (.long vv), .second, .val (.int vseed), .val (.long vj), .second, .val (.int vo), .val (.ref b1)] [(.int (((vj.toUInt64 >>> ((3 : Int32) &&& 0x3f).toInt64.toUInt64).toInt64).toInt32)), (.int (8 : Int32)), (.ref b1)]))
  refine OGo.on (fun t k => XS.i2b X25.here hx rfl (hb hby at_98) rfl k) ?_
  show OGo p e below s _ _ _ (T25.setTop (mkF m 99 #[.val (.long vv), .second, .val (.int vseed), .val (.long vj), .second, .val (.int vo), .val (.ref b1)] [(.int ((((vj.toUInt64 >>> ((3 : Int32) &&& 0x3f).toInt64.toUInt64).toInt64).toInt32).toInt8.toInt32)), (.int (8 : Int32)), (.ref b1)]))
  generalize hv_f8 : ((((vj.toUInt64 >>> ((3 : Int32) &&& 0x3f).toInt64.toUInt64).toInt64).toInt32).toInt8.toInt32) = f8
  show OGo p e below s _ _ _ (T25.setTop (mkF m 99 #[.val (.long vv), .second, .val (.int vseed), .val (.long vj), .second, .val (.int vo), .val (.ref b1)] [(.int f8), (.int (8 : Int32)), (.ref b1)]))
  obtain ⟨T28, h28, X28, e28, W28, A28, st28⟩ := OAL.stB X25 hx hZ e25 V25 (j := (8 : Int32)) (x := f8) (by decide) (by decide : 8 < 11) (Ls := #[.val (.long vv), .second, .val (.int vseed), .val (.long vj), .second, .val (.int vo), .val (.ref b1)]) (rest := []) (hb hby at_99)
  have Z29 : n0 ≤ h28.size := Nat.le_trans Z26 (Nat.le_of_eq W28.size.symm)
  have N30 := Fr.snoc X28 N27 ge2
  have V28 : OAL Z h28 b1 .byte [(nar .byte f0), (nar .byte f1), (nar .byte f2), (nar .byte f3), (nar .byte f4), (nar .byte f5), (nar .byte f6), (nar .byte f7), (nar .byte f8), (0 : Int32), (0 : Int32)] := A28
  refine OGo.on st28 ?_
  show OGo p e below s _ _ _ (T28.setTop (mkF m 100 #[.val (.long vv), .second, .val (.int vseed), .val (.long vj), .second, .val (.int vo), .val (.ref b1)] []))
  refine OGo.on (fun t k => XS.aload X28.here hx rfl (hb hby at_100) rfl rfl k) ?_
  show OGo p e below s _ _ _ (T28.setTop (mkF m 102 #[.val (.long vv), .second, .val (.int vseed), .val (.long vj), .second, .val (.int vo), .val (.ref b1)] [(.ref b1)]))
  refine OGo.on (fun t k => XS.bipush X28.here hx rfl (hb hby at_102) k) ?_
  show OGo p e below s _ _ _ (T28.setTop (mkF m 104 #[.val (.long vv), .second, .val (.int vseed), .val (.long vj), .second, .val (.int vo), .val (.ref b1)] [(.int (9 : Int32)), (.ref b1)]))
  refine OGo.on (fun t k => XS.lloadN X28.here hx rfl (hb hby at_104) rfl k) ?_
  show OGo p e below s _ _ _ (T28.setTop (mkF m 105 #[.val (.long vv), .second, .val (.int vseed), .val (.long vj), .second, .val (.int vo), .val (.ref b1)] [(.long vj), (.int (9 : Int32)), (.ref b1)]))
  refine OGo.on (fun t k => XS.bipush X28.here hx rfl (hb hby at_105) k) ?_
  show OGo p e below s _ _ _ (T28.setTop (mkF m 107 #[.val (.long vv), .second, .val (.int vseed), .val (.long vj), .second, .val (.int vo), .val (.ref b1)] [(.int (11 : Int32)), (.long vj), (.int (9 : Int32)), (.ref b1)]))
  refine OGo.on (fun t k => XS.lushr X28.here hx rfl (hb hby at_107) rfl k) ?_
  show OGo p e below s _ _ _ (T28.setTop (mkF m 108 #[.val (.long vv), .second, .val (.int vseed), .val (.long vj), .second, .val (.int vo), .val (.ref b1)] [(.long ((vj.toUInt64 >>> ((11 : Int32) &&& 0x3f).toInt64.toUInt64).toInt64)), (.int (9 : Int32)), (.ref b1)]))
  refine OGo.on (fun t k => XS.l2i X28.here hx rfl (hb hby at_108) rfl k) ?_
  show OGo p e below s _ _ _ (T28.setTop (mkF m 109 #[.val (.long vv), .second, .val (.int vseed), .val (.long vj), .second, .val (.int vo), .val (.ref b1)] [(.int (((vj.toUInt64 >>> ((11 : Int32) &&& 0x3f).toInt64.toUInt64).toInt64).toInt32)), (.int (9 : Int32)), (.ref b1)]))
  refine OGo.on (fun t k => XS.i2b X28.here hx rfl (hb hby at_109) rfl k) ?_
  show OGo p e below s _ _ _ (T28.setTop (mkF m 110 #[.val (.long vv), .second, .val (.int vseed), .val (.long vj), .second, .val (.int vo), .val (.ref b1)] [(.int ((((vj.toUInt64 >>> ((11 : Int32) &&& 0x3f).toInt64.toUInt64).toInt64).toInt32).toInt8.toInt32)), (.int (9 : Int32)), (.ref b1)]))
  generalize hv_f9 : ((((vj.toUInt64 >>> ((11 : Int32) &&& 0x3f).toInt64.toUInt64).toInt64).toInt32).toInt8.toInt32) = f9
  show OGo p e below s _ _ _ (T28.setTop (mkF m 110 #[.val (.long vv), .second, .val (.int vseed), .val (.long vj), .second, .val (.int vo), .val (.ref b1)] [(.int f9), (.int (9 : Int32)), (.ref b1)]))
  obtain ⟨T31, h31, X31, e31, W31, A31, st31⟩ := OAL.stB X28 hx hZ e28 V28 (j := (9 : Int32)) (x := f9) (by decide) (by decide : 9 < 11) (Ls := #[.val (.long vv), .second, .val (.int vseed), .val (.long vj), .second, .val (.int vo), .val (.ref b1)]) (rest := []) (hb hby at_110)
  have Z32 : n0 ≤ h31.size := Nat.le_trans Z29 (Nat.le_of_eq W31.size.symm)
  have N33 := Fr.snoc X31 N30 ge2
  have V31 : OAL Z h31 b1 .byte [(nar .byte f0), (nar .byte f1), (nar .byte f2), (nar .byte f3), (nar .byte f4), (nar .byte f5), (nar .byte f6), (nar .byte f7), (nar .byte f8), (nar .byte f9), (0 : Int32)] := A31
  refine OGo.on st31 ?_
  show OGo p e below s _ _ _ (T31.setTop (mkF m 111 #[.val (.long vv), .second, .val (.int vseed), .val (.long vj), .second, .val (.int vo), .val (.ref b1)] []))
  refine OGo.on (fun t k => XS.aload X31.here hx rfl (hb hby at_111) rfl rfl k) ?_
  show OGo p e below s _ _ _ (T31.setTop (mkF m 113 #[.val (.long vv), .second, .val (.int vseed), .val (.long vj), .second, .val (.int vo), .val (.ref b1)] [(.ref b1)]))
  refine OGo.on (fun t k => XS.bipush X31.here hx rfl (hb hby at_113) k) ?_
  show OGo p e below s _ _ _ (T31.setTop (mkF m 115 #[.val (.long vv), .second, .val (.int vseed), .val (.long vj), .second, .val (.int vo), .val (.ref b1)] [(.int (10 : Int32)), (.ref b1)]))
  refine OGo.on (fun t k => XS.lloadN X31.here hx rfl (hb hby at_115) rfl k) ?_
  show OGo p e below s _ _ _ (T31.setTop (mkF m 116 #[.val (.long vv), .second, .val (.int vseed), .val (.long vj), .second, .val (.int vo), .val (.ref b1)] [(.long vj), (.int (10 : Int32)), (.ref b1)]))
  refine OGo.on (fun t k => XS.bipush X31.here hx rfl (hb hby at_116) k) ?_
  show OGo p e below s _ _ _ (T31.setTop (mkF m 118 #[.val (.long vv), .second, .val (.int vseed), .val (.long vj), .second, .val (.int vo), .val (.ref b1)] [(.int (19 : Int32)), (.long vj), (.int (10 : Int32)), (.ref b1)]))
  refine OGo.on (fun t k => XS.lushr X31.here hx rfl (hb hby at_118) rfl k) ?_
  show OGo p e below s _ _ _ (T31.setTop (mkF m 119 #[.val (.long vv), .second, .val (.int vseed), .val (.long vj), .second, .val (.int vo), .val (.ref b1)] [(.long ((vj.toUInt64 >>> ((19 : Int32) &&& 0x3f).toInt64.toUInt64).toInt64)), (.int (10 : Int32)), (.ref b1)]))
  refine OGo.on (fun t k => XS.l2i X31.here hx rfl (hb hby at_119) rfl k) ?_
  show OGo p e below s _ _ _ (T31.setTop (mkF m 120 #[.val (.long vv), .second, .val (.int vseed), .val (.long vj), .second, .val (.int vo), .val (.ref b1)] [(.int (((vj.toUInt64 >>> ((19 : Int32) &&& 0x3f).toInt64.toUInt64).toInt64).toInt32)), (.int (10 : Int32)), (.ref b1)]))
  refine OGo.on (fun t k => XS.i2b X31.here hx rfl (hb hby at_120) rfl k) ?_
  show OGo p e below s _ _ _ (T31.setTop (mkF m 121 #[.val (.long vv), .second, .val (.int vseed), .val (.long vj), .second, .val (.int vo), .val (.ref b1)] [(.int ((((vj.toUInt64 >>> ((19 : Int32) &&& 0x3f).toInt64.toUInt64).toInt64).toInt32).toInt8.toInt32)), (.int (10 : Int32)), (.ref b1)]))
  generalize hv_f10 : ((((vj.toUInt64 >>> ((19 : Int32) &&& 0x3f).toInt64.toUInt64).toInt64).toInt32).toInt8.toInt32) = f10
  show OGo p e below s _ _ _ (T31.setTop (mkF m 121 #[.val (.long vv), .second, .val (.int vseed), .val (.long vj), .second, .val (.int vo), .val (.ref b1)] [(.int f10), (.int (10 : Int32)), (.ref b1)]))
  obtain ⟨T34, h34, X34, e34, W34, A34, st34⟩ := OAL.stB X31 hx hZ e31 V31 (j := (10 : Int32)) (x := f10) (by decide) (by decide : 10 < 11) (Ls := #[.val (.long vv), .second, .val (.int vseed), .val (.long vj), .second, .val (.int vo), .val (.ref b1)]) (rest := []) (hb hby at_121)
  have Z35 : n0 ≤ h34.size := Nat.le_trans Z32 (Nat.le_of_eq W34.size.symm)
  have N36 := Fr.snoc X34 N33 ge2
  have V34 : OAL Z h34 b1 .byte [(nar .byte f0), (nar .byte f1), (nar .byte f2), (nar .byte f3), (nar .byte f4), (nar .byte f5), (nar .byte f6), (nar .byte f7), (nar .byte f8), (nar .byte f9), (nar .byte f10)] := A34
  refine OGo.on st34 ?_
  show OGo p e below s _ _ _ (T34.setTop (mkF m 122 #[.val (.long vv), .second, .val (.int vseed), .val (.long vj), .second, .val (.int vo), .val (.ref b1)] []))
  refine OGo.on (fun t k => XS.aload X34.here hx rfl (hb hby at_122) rfl rfl k) ?_
  show OGo p e below s _ _ _ (T34.setTop (mkF m 124 #[.val (.long vv), .second, .val (.int vseed), .val (.long vj), .second, .val (.int vo), .val (.ref b1)] [(.ref b1)]))
  refine OGo.on (fun t k => XS.iload X34.here hx rfl (hb hby at_124) rfl k) ?_
  show OGo p e below s _ _ _ (T34.setTop (mkF m 126 #[.val (.long vv), .second, .val (.int vseed), .val (.long vj), .second, .val (.int vo), .val (.ref b1)] [(.int vo), (.ref b1)]))
  refine OGo.on (fun t k => XS.lloadN X34.here hx rfl (hb hby at_126) rfl k) ?_
  show OGo p e below s _ _ _ (T34.setTop (mkF m 127 #[.val (.long vv), .second, .val (.int vseed), .val (.long vj), .second, .val (.int vo), .val (.ref b1)] [(.long vv), (.int vo), (.ref b1)]))
  refine OGo.on (fun t k => XS.bipush X34.here hx rfl (hb hby at_127) k) ?_
  show OGo p e below s _ _ _ (T34.setTop (mkF m 129 #[.val (.long vv), .second, .val (.int vseed), .val (.long vj), .second, .val (.int vo), .val (.ref b1)] [(.int (56 : Int32)), (.long vv), (.int vo), (.ref b1)]))
  refine OGo.on (fun t k => XS.lushr X34.here hx rfl (hb hby at_129) rfl k) ?_
  show OGo p e below s _ _ _ (T34.setTop (mkF m 130 #[.val (.long vv), .second, .val (.int vseed), .val (.long vj), .second, .val (.int vo), .val (.ref b1)] [(.long ((vv.toUInt64 >>> ((56 : Int32) &&& 0x3f).toInt64.toUInt64).toInt64)), (.int vo), (.ref b1)]))
  refine OGo.on (fun t k => XS.l2i X34.here hx rfl (hb hby at_130) rfl k) ?_
  show OGo p e below s _ _ _ (T34.setTop (mkF m 131 #[.val (.long vv), .second, .val (.int vseed), .val (.long vj), .second, .val (.int vo), .val (.ref b1)] [(.int (((vv.toUInt64 >>> ((56 : Int32) &&& 0x3f).toInt64.toUInt64).toInt64).toInt32)), (.int vo), (.ref b1)]))
  refine OGo.on (fun t k => XS.i2b X34.here hx rfl (hb hby at_131) rfl k) ?_
  show OGo p e below s _ _ _ (T34.setTop (mkF m 132 #[.val (.long vv), .second, .val (.int vseed), .val (.long vj), .second, .val (.int vo), .val (.ref b1)] [(.int ((((vv.toUInt64 >>> ((56 : Int32) &&& 0x3f).toInt64.toUInt64).toInt64).toInt32).toInt8.toInt32)), (.int vo), (.ref b1)]))
  generalize hv_y0 : ((((vv.toUInt64 >>> ((56 : Int32) &&& 0x3f).toInt64.toUInt64).toInt64).toInt32).toInt8.toInt32) = y0
  show OGo p e below s _ _ _ (T34.setTop (mkF m 132 #[.val (.long vv), .second, .val (.int vseed), .val (.long vj), .second, .val (.int vo), .val (.ref b1)] [(.int y0), (.int vo), (.ref b1)]))
  obtain ⟨T37, h37, X37, e37, W37, A37, st37⟩ := OAL.stB X34 hx hZ e34 V34 (j := vo) (x := y0) (own_x (P := fun o => ¬ o < 0) ho (by decide)) (by simp only [List.length_set, List.length_cons, List.length_nil]; exact own_x (P := fun o => o.toNatClampNeg < 11) ho (by decide)) (Ls := #[.val (.long vv), .second, .val (.int vseed), .val (.long vj), .second, .val (.int vo), .val (.ref b1)]) (rest := []) (hb hby at_132)
  have Z38 : n0 ≤ h37.size := Nat.le_trans Z35 (Nat.le_of_eq W37.size.symm)
  have N39 := Fr.snoc X37 N36 ge2
  have V37 : OAL Z h37 b1 .byte ([(nar .byte f0), (nar .byte f1), (nar .byte f2), (nar .byte f3), (nar .byte f4), (nar .byte f5), (nar .byte f6), (nar .byte f7), (nar .byte f8), (nar .byte f9), (nar .byte f10)].set vo.toNatClampNeg (nar .byte y0)) := A37
  refine OGo.on st37 ?_
  show OGo p e below s _ _ _ (T37.setTop (mkF m 133 #[.val (.long vv), .second, .val (.int vseed), .val (.long vj), .second, .val (.int vo), .val (.ref b1)] []))
  refine OGo.on (fun t k => XS.aload X37.here hx rfl (hb hby at_133) rfl rfl k) ?_
  show OGo p e below s _ _ _ (T37.setTop (mkF m 135 #[.val (.long vv), .second, .val (.int vseed), .val (.long vj), .second, .val (.int vo), .val (.ref b1)] [(.ref b1)]))
  refine OGo.on (fun t k => XS.iload X37.here hx rfl (hb hby at_135) rfl k) ?_
  show OGo p e below s _ _ _ (T37.setTop (mkF m 137 #[.val (.long vv), .second, .val (.int vseed), .val (.long vj), .second, .val (.int vo), .val (.ref b1)] [(.int vo), (.ref b1)]))
  refine OGo.on (fun t k => XS.iconst X37.here hx rfl (hb hby at_137) k) ?_
  show OGo p e below s _ _ _ (T37.setTop (mkF m 138 #[.val (.long vv), .second, .val (.int vseed), .val (.long vj), .second, .val (.int vo), .val (.ref b1)] [(.int (1 : Int32)), (.int vo), (.ref b1)]))
  refine OGo.on (fun t k => XS.iadd X37.here hx rfl (hb hby at_138) rfl k) ?_
  show OGo p e below s _ _ _ (T37.setTop (mkF m 139 #[.val (.long vv), .second, .val (.int vseed), .val (.long vj), .second, .val (.int vo), .val (.ref b1)] [(.int (vo + (1 : Int32))), (.ref b1)]))
  refine OGo.on (fun t k => XS.lloadN X37.here hx rfl (hb hby at_139) rfl k) ?_
  show OGo p e below s _ _ _ (T37.setTop (mkF m 140 #[.val (.long vv), .second, .val (.int vseed), .val (.long vj), .second, .val (.int vo), .val (.ref b1)] [(.long vv), (.int (vo + (1 : Int32))), (.ref b1)]))
  refine OGo.on (fun t k => XS.bipush X37.here hx rfl (hb hby at_140) k) ?_
  show OGo p e below s _ _ _ (T37.setTop (mkF m 142 #[.val (.long vv), .second, .val (.int vseed), .val (.long vj), .second, .val (.int vo), .val (.ref b1)] [(.int (48 : Int32)), (.long vv), (.int (vo + (1 : Int32))), (.ref b1)]))
  refine OGo.on (fun t k => XS.lushr X37.here hx rfl (hb hby at_142) rfl k) ?_
  show OGo p e below s _ _ _ (T37.setTop (mkF m 143 #[.val (.long vv), .second, .val (.int vseed), .val (.long vj), .second, .val (.int vo), .val (.ref b1)] [(.long ((vv.toUInt64 >>> ((48 : Int32) &&& 0x3f).toInt64.toUInt64).toInt64)), (.int (vo + (1 : Int32))), (.ref b1)]))
  refine OGo.on (fun t k => XS.l2i X37.here hx rfl (hb hby at_143) rfl k) ?_
  show OGo p e below s _ _ _ (T37.setTop (mkF m 144 #[.val (.long vv), .second, .val (.int vseed), .val (.long vj), .second, .val (.int vo), .val (.ref b1)] [(.int (((vv.toUInt64 >>> ((48 : Int32) &&& 0x3f).toInt64.toUInt64).toInt64).toInt32)), (.int (vo + (1 : Int32))), (.ref b1)]))
  refine OGo.on (fun t k => XS.i2b X37.here hx rfl (hb hby at_144) rfl k) ?_
  show OGo p e below s _ _ _ (T37.setTop (mkF m 145 #[.val (.long vv), .second, .val (.int vseed), .val (.long vj), .second, .val (.int vo), .val (.ref b1)] [(.int ((((vv.toUInt64 >>> ((48 : Int32) &&& 0x3f).toInt64.toUInt64).toInt64).toInt32).toInt8.toInt32)), (.int (vo + (1 : Int32))), (.ref b1)]))
  generalize hv_y1 : ((((vv.toUInt64 >>> ((48 : Int32) &&& 0x3f).toInt64.toUInt64).toInt64).toInt32).toInt8.toInt32) = y1
  show OGo p e below s _ _ _ (T37.setTop (mkF m 145 #[.val (.long vv), .second, .val (.int vseed), .val (.long vj), .second, .val (.int vo), .val (.ref b1)] [(.int y1), (.int (vo + (1 : Int32))), (.ref b1)]))
  obtain ⟨T40, h40, X40, e40, W40, A40, st40⟩ := OAL.stB X37 hx hZ e37 V37 (j := (vo + (1 : Int32))) (x := y1) (own_x (P := fun o => ¬ (o + (1 : Int32)) < 0) ho (by decide)) (by simp only [List.length_set, List.length_cons, List.length_nil]; exact own_x (P := fun o => (o + (1 : Int32)).toNatClampNeg < 11) ho (by decide)) (Ls := #[.val (.long vv), .second, .val (.int vseed), .val (.long vj), .second, .val (.int vo), .val (.ref b1)]) (rest := []) (hb hby at_145)
  have Z41 : n0 ≤ h40.size := Nat.le_trans Z38 (Nat.le_of_eq W40.size.symm)
  have N42 := Fr.snoc X40 N39 ge2
  have V40 : OAL Z h40 b1 .byte (([(nar .byte f0), (nar .byte f1), (nar .byte f2), (nar .byte f3), (nar .byte f4), (nar .byte f5), (nar .byte f6), (nar .byte f7), (nar .byte f8), (nar .byte f9), (nar .byte f10)].set vo.toNatClampNeg (nar .byte y0)).set (vo + (1 : Int32)).toNatClampNeg (nar .byte y1)) := A40
  refine OGo.on st40 ?_
  show OGo p e below s _ _ _ (T40.setTop (mkF m 146 #[.val (.long vv), .second, .val (.int vseed), .val (.long vj), .second, .val (.int vo), .val (.ref b1)] []))
  refine OGo.on (fun t k => XS.aload X40.here hx rfl (hb hby at_146) rfl rfl k) ?_
  show OGo p e below s _ _ _ (T40.setTop (mkF m 148 #[.val (.long vv), .second, .val (.int vseed), .val (.long vj), .second, .val (.int vo), .val (.ref b1)] [(.ref b1)]))
  refine OGo.on (fun t k => XS.iload X40.here hx rfl (hb hby at_148) rfl k) ?_
  show OGo p e below s _ _ _ (T40.setTop (mkF m 150 #[.val (.long vv), .second, .val (.int vseed), .val (.long vj), .second, .val (.int vo), .val (.ref b1)] [(.int vo), (.ref b1)]))
  refine OGo.on (fun t k => XS.iconst X40.here hx rfl (hb hby at_150) k) ?_
  show OGo p e below s _ _ _ (T40.setTop (mkF m 151 #[.val (.long vv), .second, .val (.int vseed), .val (.long vj), .second, .val (.int vo), .val (.ref b1)] [(.int (2 : Int32)), (.int vo), (.ref b1)]))
  refine OGo.on (fun t k => XS.iadd X40.here hx rfl (hb hby at_151) rfl k) ?_
  show OGo p e below s _ _ _ (T40.setTop (mkF m 152 #[.val (.long vv), .second, .val (.int vseed), .val (.long vj), .second, .val (.int vo), .val (.ref b1)] [(.int (vo + (2 : Int32))), (.ref b1)]))
  refine OGo.on (fun t k => XS.lloadN X40.here hx rfl (hb hby at_152) rfl k) ?_
  show OGo p e below s _ _ _ (T40.setTop (mkF m 153 #[.val (.long vv), .second, .val (.int vseed), .val (.long vj), .second, .val (.int vo), .val (.ref b1)] [(.long vv), (.int (vo + (2 : Int32))), (.ref b1)]))
  refine OGo.on (fun t k => XS.bipush X40.here hx rfl (hb hby at_153) k) ?_
  show OGo p e below s _ _ _ (T40.setTop (mkF m 155 #[.val (.long vv), .second, .val (.int vseed), .val (.long vj), .second, .val (.int vo), .val (.ref b1)] [(.int (40 : Int32)), (.long vv), (.int (vo + (2 : Int32))), (.ref b1)]))
  refine OGo.on (fun t k => XS.lushr X40.here hx rfl (hb hby at_155) rfl k) ?_
  show OGo p e below s _ _ _ (T40.setTop (mkF m 156 #[.val (.long vv), .second, .val (.int vseed), .val (.long vj), .second, .val (.int vo), .val (.ref b1)] [(.long ((vv.toUInt64 >>> ((40 : Int32) &&& 0x3f).toInt64.toUInt64).toInt64)), (.int (vo + (2 : Int32))), (.ref b1)]))
  refine OGo.on (fun t k => XS.l2i X40.here hx rfl (hb hby at_156) rfl k) ?_
  show OGo p e below s _ _ _ (T40.setTop (mkF m 157 #[.val (.long vv), .second, .val (.int vseed), .val (.long vj), .second, .val (.int vo), .val (.ref b1)] [(.int (((vv.toUInt64 >>> ((40 : Int32) &&& 0x3f).toInt64.toUInt64).toInt64).toInt32)), (.int (vo + (2 : Int32))), (.ref b1)]))
  refine OGo.on (fun t k => XS.i2b X40.here hx rfl (hb hby at_157) rfl k) ?_
  show OGo p e below s _ _ _ (T40.setTop (mkF m 158 #[.val (.long vv), .second, .val (.int vseed), .val (.long vj), .second, .val (.int vo), .val (.ref b1)] [(.int ((((vv.toUInt64 >>> ((40 : Int32) &&& 0x3f).toInt64.toUInt64).toInt64).toInt32).toInt8.toInt32)), (.int (vo + (2 : Int32))), (.ref b1)]))
  generalize hv_y2 : ((((vv.toUInt64 >>> ((40 : Int32) &&& 0x3f).toInt64.toUInt64).toInt64).toInt32).toInt8.toInt32) = y2
  show OGo p e below s _ _ _ (T40.setTop (mkF m 158 #[.val (.long vv), .second, .val (.int vseed), .val (.long vj), .second, .val (.int vo), .val (.ref b1)] [(.int y2), (.int (vo + (2 : Int32))), (.ref b1)]))
  obtain ⟨T43, h43, X43, e43, W43, A43, st43⟩ := OAL.stB X40 hx hZ e40 V40 (j := (vo + (2 : Int32))) (x := y2) (own_x (P := fun o => ¬ (o + (2 : Int32)) < 0) ho (by decide)) (by simp only [List.length_set, List.length_cons, List.length_nil]; exact own_x (P := fun o => (o + (2 : Int32)).toNatClampNeg < 11) ho (by decide)) (Ls := #[.val (.long vv), .second, .val (.int vseed), .val (.long vj), .second, .val (.int vo), .val (.ref b1)]) (rest := []) (hb hby at_158)
  have Z44 : n0 ≤ h43.size := Nat.le_trans Z41 (Nat.le_of_eq W43.size.symm)
  have N45 := Fr.snoc X43 N42 ge2
  have V43 : OAL Z h43 b1 .byte ((([(nar .byte f0), (nar .byte f1), (nar .byte f2), (nar .byte f3), (nar .byte f4), (nar .byte f5), (nar .byte f6), (nar .byte f7), (nar .byte f8), (nar .byte f9), (nar .byte f10)].set vo.toNatClampNeg (nar .byte y0)).set (vo + (1 : Int32)).toNatClampNeg (nar .byte y1)).set (vo + (2 : Int32)).toNatClampNeg (nar .byte y2)) := A43
  refine OGo.on st43 ?_
  show OGo p e below s _ _ _ (T43.setTop (mkF m 159 #[.val (.long vv), .second, .val (.int vseed), .val (.long vj), .second, .val (.int vo), .val (.ref b1)] []))
  refine OGo.on (fun t k => XS.aload X43.here hx rfl (hb hby at_159) rfl rfl k) ?_
  show OGo p e below s _ _ _ (T43.setTop (mkF m 161 #[.val (.long vv), .second, .val (.int vseed), .val (.long vj), .second, .val (.int vo), .val (.ref b1)] [(.ref b1)]))
  refine OGo.on (fun t k => XS.iload X43.here hx rfl (hb hby at_161) rfl k) ?_
  show OGo p e below s _ _ _ (T43.setTop (mkF m 163 #[.val (.long vv), .second, .val (.int vseed), .val (.long vj), .second, .val (.int vo), .val (.ref b1)] [(.int vo), (.ref b1)]))
  refine OGo.on (fun t k => XS.iconst X43.here hx rfl (hb hby at_163) k) ?_
  show OGo p e below s _ _ _ (T43.setTop (mkF m 164 #[.val (.long vv), .second, .val (.int vseed), .val (.long vj), .second, .val (.int vo), .val (.ref b1)] [(.int (3 : Int32)), (.int vo), (.ref b1)]))
  refine OGo.on (fun t k => XS.iadd X43.here hx rfl (hb hby at_164) rfl k) ?_
  show OGo p e below s _ _ _ (T43.setTop (mkF m 165 #[.val (.long vv), .second, .val (.int vseed), .val (.long vj), .second, .val (.int vo), .val (.ref b1)] [(.int (vo + (3 : Int32))), (.ref b1)]))
  refine OGo.on (fun t k => XS.lloadN X43.here hx rfl (hb hby at_165) rfl k) ?_
  show OGo p e below s _ _ _ (T43.setTop (mkF m 166 #[.val (.long vv), .second, .val (.int vseed), .val (.long vj), .second, .val (.int vo), .val (.ref b1)] [(.long vv), (.int (vo + (3 : Int32))), (.ref b1)]))
  refine OGo.on (fun t k => XS.bipush X43.here hx rfl (hb hby at_166) k) ?_
  show OGo p e below s _ _ _ (T43.setTop (mkF m 168 #[.val (.long vv), .second, .val (.int vseed), .val (.long vj), .second, .val (.int vo), .val (.ref b1)] [(.int (32 : Int32)), (.long vv), (.int (vo + (3 : Int32))), (.ref b1)]))
  refine OGo.on (fun t k => XS.lushr X43.here hx rfl (hb hby at_168) rfl k) ?_
  show OGo p e below s _ _ _ (T43.setTop (mkF m 169 #[.val (.long vv), .second, .val (.int vseed), .val (.long vj), .second, .val (.int vo), .val (.ref b1)] [(.long ((vv.toUInt64 >>> ((32 : Int32) &&& 0x3f).toInt64.toUInt64).toInt64)), (.int (vo + (3 : Int32))), (.ref b1)]))
  refine OGo.on (fun t k => XS.l2i X43.here hx rfl (hb hby at_169) rfl k) ?_
  show OGo p e below s _ _ _ (T43.setTop (mkF m 170 #[.val (.long vv), .second, .val (.int vseed), .val (.long vj), .second, .val (.int vo), .val (.ref b1)] [(.int (((vv.toUInt64 >>> ((32 : Int32) &&& 0x3f).toInt64.toUInt64).toInt64).toInt32)), (.int (vo + (3 : Int32))), (.ref b1)]))
  refine OGo.on (fun t k => XS.i2b X43.here hx rfl (hb hby at_170) rfl k) ?_
  show OGo p e below s _ _ _ (T43.setTop (mkF m 171 #[.val (.long vv), .second, .val (.int vseed), .val (.long vj), .second, .val (.int vo), .val (.ref b1)] [(.int ((((vv.toUInt64 >>> ((32 : Int32) &&& 0x3f).toInt64.toUInt64).toInt64).toInt32).toInt8.toInt32)), (.int (vo + (3 : Int32))), (.ref b1)]))
  generalize hv_y3 : ((((vv.toUInt64 >>> ((32 : Int32) &&& 0x3f).toInt64.toUInt64).toInt64).toInt32).toInt8.toInt32) = y3
  show OGo p e below s _ _ _ (T43.setTop (mkF m 171 #[.val (.long vv), .second, .val (.int vseed), .val (.long vj), .second, .val (.int vo), .val (.ref b1)] [(.int y3), (.int (vo + (3 : Int32))), (.ref b1)]))
  obtain ⟨T46, h46, X46, e46, W46, A46, st46⟩ := OAL.stB X43 hx hZ e43 V43 (j := (vo + (3 : Int32))) (x := y3) (own_x (P := fun o => ¬ (o + (3 : Int32)) < 0) ho (by decide)) (by simp only [List.length_set, List.length_cons, List.length_nil]; exact own_x (P := fun o => (o + (3 : Int32)).toNatClampNeg < 11) ho (by decide)) (Ls := #[.val (.long vv), .second, .val (.int vseed), .val (.long vj), .second, .val (.int vo), .val (.ref b1)]) (rest := []) (hb hby at_171)
  have Z47 : n0 ≤ h46.size := Nat.le_trans Z44 (Nat.le_of_eq W46.size.symm)
  have N48 := Fr.snoc X46 N45 ge2
  have V46 : OAL Z h46 b1 .byte (((([(nar .byte f0), (nar .byte f1), (nar .byte f2), (nar .byte f3), (nar .byte f4), (nar .byte f5), (nar .byte f6), (nar .byte f7), (nar .byte f8), (nar .byte f9), (nar .byte f10)].set vo.toNatClampNeg (nar .byte y0)).set (vo + (1 : Int32)).toNatClampNeg (nar .byte y1)).set (vo + (2 : Int32)).toNatClampNeg (nar .byte y2)).set (vo + (3 : Int32)).toNatClampNeg (nar .byte y3)) := A46
  refine OGo.on st46 ?_
  show OGo p e below s _ _ _ (T46.setTop (mkF m 172 #[.val (.long vv), .second, .val (.int vseed), .val (.long vj), .second, .val (.int vo), .val (.ref b1)] []))
  refine OGo.on (fun t k => XS.aload X46.here hx rfl (hb hby at_172) rfl rfl k) ?_
  show OGo p e below s _ _ _ (T46.setTop (mkF m 174 #[.val (.long vv), .second, .val (.int vseed), .val (.long vj), .second, .val (.int vo), .val (.ref b1)] [(.ref b1)]))
  refine OGo.on (fun t k => XS.iload X46.here hx rfl (hb hby at_174) rfl k) ?_
  show OGo p e below s _ _ _ (T46.setTop (mkF m 176 #[.val (.long vv), .second, .val (.int vseed), .val (.long vj), .second, .val (.int vo), .val (.ref b1)] [(.int vo), (.ref b1)]))
  refine OGo.on (fun t k => XS.iconst X46.here hx rfl (hb hby at_176) k) ?_
  show OGo p e below s _ _ _ (T46.setTop (mkF m 177 #[.val (.long vv), .second, .val (.int vseed), .val (.long vj), .second, .val (.int vo), .val (.ref b1)] [(.int (4 : Int32)), (.int vo), (.ref b1)]))
  refine OGo.on (fun t k => XS.iadd X46.here hx rfl (hb hby at_177) rfl k) ?_
  show OGo p e below s _ _ _ (T46.setTop (mkF m 178 #[.val (.long vv), .second, .val (.int vseed), .val (.long vj), .second, .val (.int vo), .val (.ref b1)] [(.int (vo + (4 : Int32))), (.ref b1)]))
  refine OGo.on (fun t k => XS.lloadN X46.here hx rfl (hb hby at_178) rfl k) ?_
  show OGo p e below s _ _ _ (T46.setTop (mkF m 179 #[.val (.long vv), .second, .val (.int vseed), .val (.long vj), .second, .val (.int vo), .val (.ref b1)] [(.long vv), (.int (vo + (4 : Int32))), (.ref b1)]))
  refine OGo.on (fun t k => XS.bipush X46.here hx rfl (hb hby at_179) k) ?_
  show OGo p e below s _ _ _ (T46.setTop (mkF m 181 #[.val (.long vv), .second, .val (.int vseed), .val (.long vj), .second, .val (.int vo), .val (.ref b1)] [(.int (24 : Int32)), (.long vv), (.int (vo + (4 : Int32))), (.ref b1)]))
  refine OGo.on (fun t k => XS.lushr X46.here hx rfl (hb hby at_181) rfl k) ?_
  show OGo p e below s _ _ _ (T46.setTop (mkF m 182 #[.val (.long vv), .second, .val (.int vseed), .val (.long vj), .second, .val (.int vo), .val (.ref b1)] [(.long ((vv.toUInt64 >>> ((24 : Int32) &&& 0x3f).toInt64.toUInt64).toInt64)), (.int (vo + (4 : Int32))), (.ref b1)]))
  refine OGo.on (fun t k => XS.l2i X46.here hx rfl (hb hby at_182) rfl k) ?_
  show OGo p e below s _ _ _ (T46.setTop (mkF m 183 #[.val (.long vv), .second, .val (.int vseed), .val (.long vj), .second, .val (.int vo), .val (.ref b1)] [(.int (((vv.toUInt64 >>> ((24 : Int32) &&& 0x3f).toInt64.toUInt64).toInt64).toInt32)), (.int (vo + (4 : Int32))), (.ref b1)]))
  refine OGo.on (fun t k => XS.i2b X46.here hx rfl (hb hby at_183) rfl k) ?_
  show OGo p e below s _ _ _ (T46.setTop (mkF m 184 #[.val (.long vv), .second, .val (.int vseed), .val (.long vj), .second, .val (.int vo), .val (.ref b1)] [(.int ((((vv.toUInt64 >>> ((24 : Int32) &&& 0x3f).toInt64.toUInt64).toInt64).toInt32).toInt8.toInt32)), (.int (vo + (4 : Int32))), (.ref b1)]))
  generalize hv_y4 : ((((vv.toUInt64 >>> ((24 : Int32) &&& 0x3f).toInt64.toUInt64).toInt64).toInt32).toInt8.toInt32) = y4
  show OGo p e below s _ _ _ (T46.setTop (mkF m 184 #[.val (.long vv), .second, .val (.int vseed), .val (.long vj), .second, .val (.int vo), .val (.ref b1)] [(.int y4), (.int (vo + (4 : Int32))), (.ref b1)]))
  obtain ⟨T49, h49, X49, e49, W49, A49, st49⟩ := OAL.stB X46 hx hZ e46 V46 (j := (vo + (4 : Int32))) (x := y4) (own_x (P := fun o => ¬ (o + (4 : Int32)) < 0) ho (by decide)) (by simp only [List.length_set, List.length_cons, List.length_nil]; exact own_x (P := fun o => (o + (4 : Int32)).toNatClampNeg < 11) ho (by decide)) (Ls := #[.val (.long vv), .second, .val (.int vseed), .val (.long vj), .second, .val (.int vo), .val (.ref b1)]) (rest := []) (hb hby at_184)
  have Z50 : n0 ≤ h49.size := Nat.le_trans Z47 (Nat.le_of_eq W49.size.symm)
  have N51 := Fr.snoc X49 N48 ge2
  have V49 : OAL Z h49 b1 .byte ((((([(nar .byte f0), (nar .byte f1), (nar .byte f2), (nar .byte f3), (nar .byte f4), (nar .byte f5), (nar .byte f6), (nar .byte f7), (nar .byte f8), (nar .byte f9), (nar .byte f10)].set vo.toNatClampNeg (nar .byte y0)).set (vo + (1 : Int32)).toNatClampNeg (nar .byte y1)).set (vo + (2 : Int32)).toNatClampNeg (nar .byte y2)).set (vo + (3 : Int32)).toNatClampNeg (nar .byte y3)).set (vo + (4 : Int32)).toNatClampNeg (nar .byte y4)) := A49
  refine OGo.on st49 ?_
  show OGo p e below s _ _ _ (T49.setTop (mkF m 185 #[.val (.long vv), .second, .val (.int vseed), .val (.long vj), .second, .val (.int vo), .val (.ref b1)] []))
  refine OGo.on (fun t k => XS.aload X49.here hx rfl (hb hby at_185) rfl rfl k) ?_
  show OGo p e below s _ _ _ (T49.setTop (mkF m 187 #[.val (.long vv), .second, .val (.int vseed), .val (.long vj), .second, .val (.int vo), .val (.ref b1)] [(.ref b1)]))
  refine OGo.on (fun t k => XS.iload X49.here hx rfl (hb hby at_187) rfl k) ?_
  show OGo p e below s _ _ _ (T49.setTop (mkF m 189 #[.val (.long vv), .second, .val (.int vseed), .val (.long vj), .second, .val (.int vo), .val (.ref b1)] [(.int vo), (.ref b1)]))
  refine OGo.on (fun t k => XS.iconst X49.here hx rfl (hb hby at_189) k) ?_
  show OGo p e below s _ _ _ (T49.setTop (mkF m 190 #[.val (.long vv), .second, .val (.int vseed), .val (.long vj), .second, .val (.int vo), .val (.ref b1)] [(.int (5 : Int32)), (.int vo), (.ref b1)]))
  refine OGo.on (fun t k => XS.iadd X49.here hx rfl (hb hby at_190) rfl k) ?_
  show OGo p e below s _ _ _ (T49.setTop (mkF m 191 #[.val (.long vv), .second, .val (.int vseed), .val (.long vj), .second, .val (.int vo), .val (.ref b1)] [(.int (vo + (5 : Int32))), (.ref b1)]))
  refine OGo.on (fun t k => XS.lloadN X49.here hx rfl (hb hby at_191) rfl k) ?_
  show OGo p e below s _ _ _ (T49.setTop (mkF m 192 #[.val (.long vv), .second, .val (.int vseed), .val (.long vj), .second, .val (.int vo), .val (.ref b1)] [(.long vv), (.int (vo + (5 : Int32))), (.ref b1)]))
  refine OGo.on (fun t k => XS.bipush X49.here hx rfl (hb hby at_192) k) ?_
  show OGo p e below s _ _ _ (T49.setTop (mkF m 194 #[.val (.long vv), .second, .val (.int vseed), .val (.long vj), .second, .val (.int vo), .val (.ref b1)] [(.int (16 : Int32)), (.long vv), (.int (vo + (5 : Int32))), (.ref b1)]))
  refine OGo.on (fun t k => XS.lushr X49.here hx rfl (hb hby at_194) rfl k) ?_
  show OGo p e below s _ _ _ (T49.setTop (mkF m 195 #[.val (.long vv), .second, .val (.int vseed), .val (.long vj), .second, .val (.int vo), .val (.ref b1)] [(.long ((vv.toUInt64 >>> ((16 : Int32) &&& 0x3f).toInt64.toUInt64).toInt64)), (.int (vo + (5 : Int32))), (.ref b1)]))
  refine OGo.on (fun t k => XS.l2i X49.here hx rfl (hb hby at_195) rfl k) ?_
  show OGo p e below s _ _ _ (T49.setTop (mkF m 196 #[.val (.long vv), .second, .val (.int vseed), .val (.long vj), .second, .val (.int vo), .val (.ref b1)] [(.int (((vv.toUInt64 >>> ((16 : Int32) &&& 0x3f).toInt64.toUInt64).toInt64).toInt32)), (.int (vo + (5 : Int32))), (.ref b1)]))
  refine OGo.on (fun t k => XS.i2b X49.here hx rfl (hb hby at_196) rfl k) ?_
  show OGo p e below s _ _ _ (T49.setTop (mkF m 197 #[.val (.long vv), .second, .val (.int vseed), .val (.long vj), .second, .val (.int vo), .val (.ref b1)] [(.int ((((vv.toUInt64 >>> ((16 : Int32) &&& 0x3f).toInt64.toUInt64).toInt64).toInt32).toInt8.toInt32)), (.int (vo + (5 : Int32))), (.ref b1)]))
  generalize hv_y5 : ((((vv.toUInt64 >>> ((16 : Int32) &&& 0x3f).toInt64.toUInt64).toInt64).toInt32).toInt8.toInt32) = y5
  show OGo p e below s _ _ _ (T49.setTop (mkF m 197 #[.val (.long vv), .second, .val (.int vseed), .val (.long vj), .second, .val (.int vo), .val (.ref b1)] [(.int y5), (.int (vo + (5 : Int32))), (.ref b1)]))
  obtain ⟨T52, h52, X52, e52, W52, A52, st52⟩ := OAL.stB X49 hx hZ e49 V49 (j := (vo + (5 : Int32))) (x := y5) (own_x (P := fun o => ¬ (o + (5 : Int32)) < 0) ho (by decide)) (by simp only [List.length_set, List.length_cons, List.length_nil]; exact own_x (P := fun o => (o + (5 : Int32)).toNatClampNeg < 11) ho (by decide)) (Ls := #[.val (.long vv), .second, .val (.int vseed), .val (.long vj), .second, .val (.int vo), .val (.ref b1)]) (rest := []) (hb hby at_197)
  have Z53 : n0 ≤ h52.size := Nat.le_trans Z50 (Nat.le_of_eq W52.size.symm)
  have N54 := Fr.snoc X52 N51 ge2
  have V52 : OAL Z h52 b1 .byte (((((([(nar .byte f0), (nar .byte f1), (nar .byte f2), (nar .byte f3), (nar .byte f4), (nar .byte f5), (nar .byte f6), (nar .byte f7), (nar .byte f8), (nar .byte f9), (nar .byte f10)].set vo.toNatClampNeg (nar .byte y0)).set (vo + (1 : Int32)).toNatClampNeg (nar .byte y1)).set (vo + (2 : Int32)).toNatClampNeg (nar .byte y2)).set (vo + (3 : Int32)).toNatClampNeg (nar .byte y3)).set (vo + (4 : Int32)).toNatClampNeg (nar .byte y4)).set (vo + (5 : Int32)).toNatClampNeg (nar .byte y5)) := A52
  refine OGo.on st52 ?_
  show OGo p e below s _ _ _ (T52.setTop (mkF m 198 #[.val (.long vv), .second, .val (.int vseed), .val (.long vj), .second, .val (.int vo), .val (.ref b1)] []))
  refine OGo.on (fun t k => XS.aload X52.here hx rfl (hb hby at_198) rfl rfl k) ?_
  show OGo p e below s _ _ _ (T52.setTop (mkF m 200 #[.val (.long vv), .second, .val (.int vseed), .val (.long vj), .second, .val (.int vo), .val (.ref b1)] [(.ref b1)]))
  refine OGo.on (fun t k => XS.iload X52.here hx rfl (hb hby at_200) rfl k) ?_
  show OGo p e below s _ _ _ (T52.setTop (mkF m 202 #[.val (.long vv), .second, .val (.int vseed), .val (.long vj), .second, .val (.int vo), .val (.ref b1)] [(.int vo), (.ref b1)]))
  refine OGo.on (fun t k => XS.bipush X52.here hx rfl (hb hby at_202) k) ?_
  show OGo p e below s _ _ _ (T52.setTop (mkF m 204 #[.val (.long vv), .second, .val (.int vseed), .val (.long vj), .second, .val (.int vo), .val (.ref b1)] [(.int (6 : Int32)), (.int vo), (.ref b1)]))
  refine OGo.on (fun t k => XS.iadd X52.here hx rfl (hb hby at_204) rfl k) ?_
  show OGo p e below s _ _ _ (T52.setTop (mkF m 205 #[.val (.long vv), .second, .val (.int vseed), .val (.long vj), .second, .val (.int vo), .val (.ref b1)] [(.int (vo + (6 : Int32))), (.ref b1)]))
  refine OGo.on (fun t k => XS.lloadN X52.here hx rfl (hb hby at_205) rfl k) ?_
  show OGo p e below s _ _ _ (T52.setTop (mkF m 206 #[.val (.long vv), .second, .val (.int vseed), .val (.long vj), .second, .val (.int vo), .val (.ref b1)] [(.long vv), (.int (vo + (6 : Int32))), (.ref b1)]))
  refine OGo.on (fun t k => XS.bipush X52.here hx rfl (hb hby at_206) k) ?_
  show OGo p e below s _ _ _ (T52.setTop (mkF m 208 #[.val (.long vv), .second, .val (.int vseed), .val (.long vj), .second, .val (.int vo), .val (.ref b1)] [(.int (8 : Int32)), (.long vv), (.int (vo + (6 : Int32))), (.ref b1)]))
  refine OGo.on (fun t k => XS.lushr X52.here hx rfl (hb hby at_208) rfl k) ?_
  show OGo p e below s _ _ _ (T52.setTop (mkF m 209 #[.val (.long vv), .second, .val (.int vseed), .val (.long vj), .second, .val (.int vo), .val (.ref b1)] [(.long ((vv.toUInt64 >>> ((8 : Int32) &&& 0x3f).toInt64.toUInt64).toInt64)), (.int (vo + (6 : Int32))), (.ref b1)]))
  refine OGo.on (fun t k => XS.l2i X52.here hx rfl (hb hby at_209) rfl k) ?_
  show OGo p e below s _ _ _ (T52.setTop (mkF m 210 #[.val (.long vv), .second, .val (.int vseed), .val (.long vj), .second, .val (.int vo), .val (.ref b1)] [(.int (((vv.toUInt64 >>> ((8 : Int32) &&& 0x3f).toInt64.toUInt64).toInt64).toInt32)), (.int (vo + (6 : Int32))), (.ref b1)]))
  refine OGo.on (fun t k => XS.i2b X52.here hx rfl (hb hby at_210) rfl k) ?_
  show OGo p e below s _ _ _ (T52.setTop (mkF m 211 #[.val (.long vv), .second, .val (.int vseed), .val (.long vj), .second, .val (.int vo), .val (.ref b1)] [(.int ((((vv.toUInt64 >>> ((8 : Int32) &&& 0x3f).toInt64.toUInt64).toInt64).toInt32).toInt8.toInt32)), (.int (vo + (6 : Int32))), (.ref b1)]))
  generalize hv_y6 : ((((vv.toUInt64 >>> ((8 : Int32) &&& 0x3f).toInt64.toUInt64).toInt64).toInt32).toInt8.toInt32) = y6
  show OGo p e below s _ _ _ (T52.setTop (mkF m 211 #[.val (.long vv), .second, .val (.int vseed), .val (.long vj), .second, .val (.int vo), .val (.ref b1)] [(.int y6), (.int (vo + (6 : Int32))), (.ref b1)]))
  obtain ⟨T55, h55, X55, e55, W55, A55, st55⟩ := OAL.stB X52 hx hZ e52 V52 (j := (vo + (6 : Int32))) (x := y6) (own_x (P := fun o => ¬ (o + (6 : Int32)) < 0) ho (by decide)) (by simp only [List.length_set, List.length_cons, List.length_nil]; exact own_x (P := fun o => (o + (6 : Int32)).toNatClampNeg < 11) ho (by decide)) (Ls := #[.val (.long vv), .second, .val (.int vseed), .val (.long vj), .second, .val (.int vo), .val (.ref b1)]) (rest := []) (hb hby at_211)
  have Z56 : n0 ≤ h55.size := Nat.le_trans Z53 (Nat.le_of_eq W55.size.symm)
  have N57 := Fr.snoc X55 N54 ge2
  have V55 : OAL Z h55 b1 .byte ((((((([(nar .byte f0), (nar .byte f1), (nar .byte f2), (nar .byte f3), (nar .byte f4), (nar .byte f5), (nar .byte f6), (nar .byte f7), (nar .byte f8), (nar .byte f9), (nar .byte f10)].set vo.toNatClampNeg (nar .byte y0)).set (vo + (1 : Int32)).toNatClampNeg (nar .byte y1)).set (vo + (2 : Int32)).toNatClampNeg (nar .byte y2)).set (vo + (3 : Int32)).toNatClampNeg (nar .byte y3)).set (vo + (4 : Int32)).toNatClampNeg (nar .byte y4)).set (vo + (5 : Int32)).toNatClampNeg (nar .byte y5)).set (vo + (6 : Int32)).toNatClampNeg (nar .byte y6)) := A55
  refine OGo.on st55 ?_
  show OGo p e below s _ _ _ (T55.setTop (mkF m 212 #[.val (.long vv), .second, .val (.int vseed), .val (.long vj), .second, .val (.int vo), .val (.ref b1)] []))
  refine OGo.on (fun t k => XS.aload X55.here hx rfl (hb hby at_212) rfl rfl k) ?_
  show OGo p e below s _ _ _ (T55.setTop (mkF m 214 #[.val (.long vv), .second, .val (.int vseed), .val (.long vj), .second, .val (.int vo), .val (.ref b1)] [(.ref b1)]))
  refine OGo.on (fun t k => XS.iload X55.here hx rfl (hb hby at_214) rfl k) ?_
  show OGo p e below s _ _ _ (T55.setTop (mkF m 216 #[.val (.long vv), .second, .val (.int vseed), .val (.long vj), .second, .val (.int vo), .val (.ref b1)] [(.int vo), (.ref b1)]))
  refine OGo.on (fun t k => XS.bipush X55.here hx rfl (hb hby at_216) k) ?_
  show OGo p e below s _ _ _ (T55.setTop (mkF m 218 #[.val (.long vv), .second, .val (.int vseed), .val (.long vj), .second, .val (.int vo), .val (.ref b1)] [(.int (7 : Int32)), (.int vo), (.ref b1)]))
  refine OGo.on (fun t k => XS.iadd X55.here hx rfl (hb hby at_218) rfl k) ?_
  show OGo p e below s _ _ _ (T55.setTop (mkF m 219 #[.val (.long vv), .second, .val (.int vseed), .val (.long vj), .second, .val (.int vo), .val (.ref b1)] [(.int (vo + (7 : Int32))), (.ref b1)]))
  refine OGo.on (fun t k => XS.lloadN X55.here hx rfl (hb hby at_219) rfl k) ?_
  show OGo p e below s _ _ _ (T55.setTop (mkF m 220 #[.val (.long vv), .second, .val (.int vseed), .val (.long vj), .second, .val (.int vo), .val (.ref b1)] [(.long vv), (.int (vo + (7 : Int32))), (.ref b1)]))
  refine OGo.on (fun t k => XS.l2i X55.here hx rfl (hb hby at_220) rfl k) ?_
  show OGo p e below s _ _ _ (T55.setTop (mkF m 221 #[.val (.long vv), .second, .val (.int vseed), .val (.long vj), .second, .val (.int vo), .val (.ref b1)] [(.int (vv.toInt32)), (.int (vo + (7 : Int32))), (.ref b1)]))
  refine OGo.on (fun t k => XS.i2b X55.here hx rfl (hb hby at_221) rfl k) ?_
  show OGo p e below s _ _ _ (T55.setTop (mkF m 222 #[.val (.long vv), .second, .val (.int vseed), .val (.long vj), .second, .val (.int vo), .val (.ref b1)] [(.int ((vv.toInt32).toInt8.toInt32)), (.int (vo + (7 : Int32))), (.ref b1)]))
  generalize hv_y7 : ((vv.toInt32).toInt8.toInt32) = y7
  show OGo p e below s _ _ _ (T55.setTop (mkF m 222 #[.val (.long vv), .second, .val (.int vseed), .val (.long vj), .second, .val (.int vo), .val (.ref b1)] [(.int y7), (.int (vo + (7 : Int32))), (.ref b1)]))
  obtain ⟨T58, h58, X58, e58, W58, A58, st58⟩ := OAL.stB X55 hx hZ e55 V55 (j := (vo + (7 : Int32))) (x := y7) (own_x (P := fun o => ¬ (o + (7 : Int32)) < 0) ho (by decide)) (by simp only [List.length_set, List.length_cons, List.length_nil]; exact own_x (P := fun o => (o + (7 : Int32)).toNatClampNeg < 11) ho (by decide)) (Ls := #[.val (.long vv), .second, .val (.int vseed), .val (.long vj), .second, .val (.int vo), .val (.ref b1)]) (rest := []) (hb hby at_222)
  have Z59 : n0 ≤ h58.size := Nat.le_trans Z56 (Nat.le_of_eq W58.size.symm)
  have N60 := Fr.snoc X58 N57 ge2
  have V58 : OAL Z h58 b1 .byte (((((((([(nar .byte f0), (nar .byte f1), (nar .byte f2), (nar .byte f3), (nar .byte f4), (nar .byte f5), (nar .byte f6), (nar .byte f7), (nar .byte f8), (nar .byte f9), (nar .byte f10)].set vo.toNatClampNeg (nar .byte y0)).set (vo + (1 : Int32)).toNatClampNeg (nar .byte y1)).set (vo + (2 : Int32)).toNatClampNeg (nar .byte y2)).set (vo + (3 : Int32)).toNatClampNeg (nar .byte y3)).set (vo + (4 : Int32)).toNatClampNeg (nar .byte y4)).set (vo + (5 : Int32)).toNatClampNeg (nar .byte y5)).set (vo + (6 : Int32)).toNatClampNeg (nar .byte y6)).set (vo + (7 : Int32)).toNatClampNeg (nar .byte y7)) := A58
  refine OGo.on st58 ?_
  show OGo p e below s _ _ _ (T58.setTop (mkF m 223 #[.val (.long vv), .second, .val (.int vseed), .val (.long vj), .second, .val (.int vo), .val (.ref b1)] []))
  refine OGo.on (fun t k => XS.aload X58.here hx rfl (hb hby at_223) rfl rfl k) ?_
  show OGo p e below s _ _ _ (T58.setTop (mkF m 225 #[.val (.long vv), .second, .val (.int vseed), .val (.long vj), .second, .val (.int vo), .val (.ref b1)] [(.ref b1)]))
  refine OGo.on (fun t k => XS.iload X58.here hx rfl (hb hby at_225) rfl k) ?_
  show OGo p e below s _ _ _ (T58.setTop (mkF m 227 #[.val (.long vv), .second, .val (.int vseed), .val (.long vj), .second, .val (.int vo), .val (.ref b1)] [(.int vo), (.ref b1)]))
  obtain ⟨_, _, ⟨T61, L61, k61, n61⟩, -, X61, ⟨Lc61, hQ61, l61, y61, z61⟩, st61⟩ := Jvm.LawKit.callS X58 hx (y := (⟨"com/example/ringward/ringward/Digests", "uint64BigEndian", "([BI)J"⟩ : MethodName)) hown (mvT hZ (hw _ (List.mem_of_getElem? (i := 1) rfl))) (mvT hZ (hw _ (List.mem_of_getElem? (i := 2) rfl))) (mvT hZ (hw _ (List.mem_of_getElem? (i := 3) rfl))) (mvT hZ (hw _ (List.mem_of_getElem? (i := 4) rfl))) (by decide) (backOf (W := 0) (own_m1 l Z a0 hw [] b1 vo _ (nar .byte y0) (nar .byte y1) (nar .byte y2) (nar .byte y3) (nar .byte y4) (nar .byte y5) (nar .byte y6) (nar .byte y7) h58 n0 Z59 ho V58 (own_at ho _ _ _ _ _ _ _ _ _ _ _ _ _ _ _ _ _ _ _).1 (own_at ho _ _ _ _ _ _ _ _ _ _ _ _ _ _ _ _ _ _ _).2.1 (own_at ho _ _ _ _ _ _ _ _ _ _ _ _ _ _ _ _ _ _ _).2.2.1 (own_at ho _ _ _ _ _ _ _ _ _ _ _ _ _ _ _ _ _ _ _).2.2.2.1 (own_at ho _ _ _ _ _ _ _ _ _ _ _ _ _ _ _ _ _ _ _).2.2.2.2.1 (own_at ho _ _ _ _ _ _ _ _ _ _ _ _ _ _ _ _ _ _ _).2.2.2.2.2.1 (own_at ho _ _ _ _ _ _ _ _ _ _ _ _ _ _ _ _ _ _ _).2.2.2.2.2.2.1 (own_at ho _ _ _ _ _ _ _ _ _ _ _ _ _ _ _ _ _ _ _).2.2.2.2.2.2.2) hZ (hw _ (List.mem_of_getElem? (i := 4) rfl)) (hw _ (List.mem_of_getElem? (i := 3) rfl)) (by decide) (by decide)) (g := (mkF m 227 #[.val (.long vv), .second, .val (.int vseed), .val (.long vj), .second, .val (.int vo), .val (.ref b1)] [(.int vo), (.ref b1)])) rfl (by rw [hml]; rfl) (argsL := [(.ref b1), (.int vo)]) (rest := []) (lenOf own_pd0 rfl) rfl (by show 2 * 0 + _ ≤ _; exact Nat.le_of_eq rfl) (hb hby at_227) (fun _ _ => ⟨rfl, e58, (by decide : 1 + 0 ≤ _), (by decide : 11 + 0 ≤ _)⟩)
  dsimp only [Pt.U, Pt.locs, Pt.cells, Pt.slots] at X61 l61 y61 z61 st61 hQ61
  subst l61 y61 z61
  obtain ⟨rfl, N61q, e61⟩ := hQ61
  have N61 := Fr.app N60 N61q
  refine OGo.on st61 ?_
  show OGo p e below s _ _ _ (T61.setTop (mkF m 230 #[.val (.long vv), .second, .val (.int vseed), .val (.long vj), .second, .val (.int vo), .val (.ref b1)] [(.long (own_f (own_f (own_f (own_f (own_f (own_f (own_f (own_f (0 : Int64) (nar .byte y0)) (nar .byte y1)) (nar .byte y2)) (nar .byte y3)) (nar .byte y4)) (nar .byte y5)) (nar .byte y6)) (nar .byte y7)))]))
  refine OGo.on (fun t k => XS.lloadN X61.here hx rfl (hb hby at_230) rfl k) ?_
  show OGo p e below s _ _ _ (T61.setTop (mkF m 231 #[.val (.long vv), .second, .val (.int vseed), .val (.long vj), .second, .val (.int vo), .val (.ref b1)] [(.long vv), (.long (own_f (own_f (own_f (own_f (own_f (own_f (own_f (own_f (0 : Int64) (nar .byte y0)) (nar .byte y1)) (nar .byte y2)) (nar .byte y3)) (nar .byte y4)) (nar .byte y5)) (nar .byte y6)) (nar .byte y7)))]))
  refine OGo.on (fun t k => XS.lcmp X61.here hx rfl (hb hby at_231) rfl k) ?_
  show OGo p e below s _ _ _ (T61.setTop (mkF m 232 #[.val (.long vv), .second, .val (.int vseed), .val (.long vj), .second, .val (.int vo), .val (.ref b1)] [(.int (lcmpW (own_f (own_f (own_f (own_f (own_f (own_f (own_f (own_f (0 : Int64) (nar .byte y0)) (nar .byte y1)) (nar .byte y2)) (nar .byte y3)) (nar .byte y4)) (nar .byte y5)) (nar .byte y6)) (nar .byte y7)) vv))]))
  refine OGo.on (fun t k => XS.ifNo X61.here hx rfl (hb hby at_232) rfl (lc_teq (by subst hv_y0 hv_y1 hv_y2 hv_y3 hv_y4 hv_y5 hv_y6 hv_y7; exact own_eq vv)).2 k) ?_
  show OGo p e below s _ _ _ (T61.setTop (mkF m 235 #[.val (.long vv), .second, .val (.int vseed), .val (.long vj), .second, .val (.int vo), .val (.ref b1)] []))
  refine OGo.on (fun t k => XS.iconst X61.here hx rfl (hb hby at_235) k) ?_
  show OGo p e below s _ _ _ (T61.setTop (mkF m 236 #[.val (.long vv), .second, .val (.int vseed), .val (.long vj), .second, .val (.int vo), .val (.ref b1)] [(.int (1 : Int32))]))
  refine OGo.on (fun t k => XS.goto X61.here hx rfl (pc0 := 236) (pc' := 240) rfl (hb hby at_236) (by decide) (by decide) k) ?_
  show OGo p e below s _ _ _ (T61.setTop (mkF m 240 #[.val (.long vv), .second, .val (.int vseed), .val (.long vj), .second, .val (.int vo), .val (.ref b1)] [(.int (1 : Int32))]))
  exact OGo.retN X61 hx (t := .boolean) hret hlk (by simp) (hb hby at_240) ⟨rfl, N61⟩ (by decide) (by decide)
set_option maxRecDepth 65536 in
set_option maxHeartbeats 40000000 in
theorem comes_1 {Post : Tables → Env → Array Value → State → Outcome → State → Prop} (hpost : ∀ tb e args s v u, (limb_1_1.after args s (.returned v) u = true ∧ limb_1_2.after args s (.returned v) u = true ∧ True) → FrameEnd s (.returned v) u (Jvm.fieldLocs frame_1_writes args s ++ Jvm.arrayLocs frame_1_arrays args s ++ Jvm.staticLocs frame_1_statics s) 16 128 → Post tb e args s (.returned v) u) :
    ArmFor flags0 classFile x code maxLocals ret World_1 tables_1 room_1 Calls_1 rest_1 Pre_1 Post := by
  intro l hfl _ _ p e ha hc hk s m args below hf hA hF happ hP
  obtain ⟨hcalls, hrest, hpre⟩ := hP
  obtain ⟨-, -, -, hnamed, -, -, -, hat⟩ := (Spec.applies_iff hf).mp happ
  obtain ⟨hg, hn⟩ := and_e (Cond.before_iff.mp (show (Jvm.Cond.and given_1 narrow_1).before args s = true from hpre))
  obtain ⟨gg62, gg63⟩ := and_e hg
  obtain ⟨gg64, gg65⟩ := and_e gg63
  obtain ⟨gg66, gg67⟩ := and_e gg65
  obtain ⟨w0, w1, w2, rfl⟩ : ∃ w0 w1 w2 : Value, args = #[w0, w1, w2] := by
    have hs : args.size = 3 := by simpa [Cond.value, given_1] using gg62
    obtain ⟨L⟩ := args
    match L, hs with
    | [w0, w1, w2], _ => exact ⟨w0, w1, w2, rfl⟩
  have hw := fun d (hd : d ∈ tables_1) => atoms_spec (ws := Jvm.Cond.code x code maxLocals ret :: tables_1) hat d (List.mem_cons_of_mem _ hd)
  obtain ⟨i0, ei0⟩ := isL_v gg64
  obtain rfl : w0 = (.long i0) := Option.some.inj ei0
  obtain ⟨i1, ei1⟩ := is_v gg66
  obtain rfl : w1 = (.int i1) := Option.some.inj ei1
  obtain ⟨i2, ei2⟩ := isL_v gg67
  obtain rfl : w2 = (.long i2) := Option.some.inj ei2
  obtain ⟨n, o, h1, h2, h3, _, L, rfl, ⟨rfl, N⟩, hq⟩ := own_law l s _ hw tables_1 i0 i1 i2 s.heap s.heap.size (Nat.le_refl _)  p e ha hc hk s m _ below hf ((Spec.applies_iff_loose hf).mp happ).1 ⟨rfl, State.Warmed39.refl s, rfl⟩ trivial
  refine ⟨n, _, h1, h2, h3, hpost _ _ _ _ _ _ ⟨Cond.after_iff.mpr rfl, Cond.after_iff.mpr (eq_i res_at (Term.int_eval (1)) rfl), trivial⟩ ⟨hq.1, hq.2.1, (hq.2.2.sift fun y hy => Or.inr (N y hy)).mono (by decide) (by decide)⟩⟩
theorem main_1_1 : Claimed_1_1 := comes_1 fun _ _ _ _ _ _ h hF => ⟨h.1, hF⟩
theorem main_1_2 : Claimed_1_2 := comes_1 fun _ _ _ _ _ _ h hF => ⟨h.2.1, hF⟩
end Jvm.Pilot.@@N@@
namespace Jvm.Pilot.@@N@@
open Jvm Jvm.ClassFile Sem Op Lib Jvm.Free Jvm.Stand Jvm.Pilot.@@N@@.Jvm.D
/-! MADE BY PROGRAM (witnessworld.py) out of the Statement's table words and the real class files: 9 classes; the members and pool entries that the words name. The judged class is class 1, her method 1. -/
namespace start1
open Jvm.ClassFile
def u (s : String) : CpInfo := .utf8 (stringToUtf16 s)
/-- a pool by its gaps: so many unusable entries, then the entry; so many at the end -/
def gap : Nat → List CpInfo → List CpInfo
  | 0, r => r
  | n + 1, r => .unusable :: gap n r
def poolList (es : List (Nat × CpInfo)) (last : Nat) : List CpInfo := es.foldr (fun e r => gap e.1 (e.2 :: r)) (gap last [])
def pool (es : List (Nat × CpInfo)) (last : Nat) : Array CpInfo := ⟨poolList es last⟩
def fileOf (pool : Array CpInfo) (this : Nat) (attrs : Array Attribute := #[]) (ms : Array MethodInfo := #[]) (fl : Nat := 33) (sup : Nat := 0) (ifs : Array Nat := #[]) (fds : Array FieldInfo := #[]) : ClassFile where
  minorVersion := 0
  majorVersion := 65
  constantPool := pool
  accessFlags := fl
  thisClass := this
  superClass := sup
  interfaces := ifs
  fields := fds
  methods := ms
  attributes := attrs
def plain (name : String) (sup : Option ClassId) : Class where
  name := name
  kind := .ordinary
  loader := none
  accessFlags := 33
  super := sup
  interfaces := #[]
  cf := none
  fields := #[]
  methods := #[]
  instanceTypes := #[]
  staticTypes := #[]
  resolved := #[]
  callSites := []
  init := .initialized
  statics := none
  mirror := none

def pool0 : Array CpInfo := pool [(5, u "<init>"), (0, u "()V"), (1, .class_ 10), (1, u "java/lang/Object")] 113

def k0m0 : Method := { name := "<init>", desc := "()V", sig := { parameters := [], returnType := none }, accessFlags := 1, code := none }
/-- java/lang/Object -/
def k0 : Class := { plain "java/lang/Object" none with
  accessFlags := 33
  interfaces := #[]
  cf := some (fileOf pool0 8 #[] #[{ accessFlags := 1, nameIndex := 5, descriptorIndex := 6, attributes := #[] }] 33 0 #[] #[])
  fields := #[]
  methods := #[k0m0]
  instanceTypes := #[]
  staticTypes := #[]
  resolved := Array.replicate 124 none
  statics := none }

def pool1 : Array CpInfo := pool [(2, .class_ 4), (1, u "java/lang/Object"), (0, u "<init>"), (0, u "()V"), (0, .methodref 8 9), (0, .class_ 10), (0, .nameAndType 11 12), (0, u "com/example/ringward/ringward/Digests"), (0, u "uint64BigEndian"), (0, u "([BI)J"), (0, .class_ 14), (0, u "com/example/ringward/ringward/DigestsUint64BigEndianPinLaw"), (2, u "law"), (0, u "(JIJ)Z")] 5

def k1m0 : Method := { name := "<init>", desc := "()V", sig := { parameters := [], returnType := none }, accessFlags := 1, code := none }
def k1c1 : Code := { maxStack := 5, maxLocals := 7, code := code, exceptionTable := #[], attributes := #[] }
def k1m1 : Method := { name := "law", desc := "(JIJ)Z", sig := { parameters := [.long, .int, .long], returnType := some .boolean }, accessFlags := 9, code := some k1c1 }
/-- com/example/ringward/ringward/DigestsUint64BigEndianPinLaw -/
def k1 : Class := { plain "com/example/ringward/ringward/DigestsUint64BigEndianPinLaw" (some 0) with
  accessFlags := 49
  interfaces := #[]
  cf := some (fileOf pool1 13 #[] #[{ accessFlags := 1, nameIndex := 5, descriptorIndex := 6, attributes := #[] }, { accessFlags := 9, nameIndex := 17, descriptorIndex := 18, attributes := #[] }] 49 2 #[] #[])
  fields := #[]
  methods := #[k1m0, k1m1]
  instanceTypes := #[]
  staticTypes := #[]
  resolved := Array.replicate 24 none
  statics := none }

def pool2 : Array CpInfo := pool [(2, .class_ 4), (1, u "java/lang/Object"), (0, u "<init>"), (0, u "()V"), (1, .class_ 10), (1, u "com/example/ringward/ringward/Digests"), (0, u "SHA256"), (0, u "Ljava/lang/ThreadLocal;"), (30, u "([BI)J"), (24, .long 255), (28, u "XXH_P1"), (0, u "J"), (1, u "XXH_P2"), (0, u "XXH_P3"), (0, u "XXH_P4"), (0, u "XXH_P5"), (0, u "XXH_BLOCK"), (0, u "I"), (13, u "uint64BigEndian")] 32

def k2m0 : Method := { name := "<init>", desc := "()V", sig := { parameters := [], returnType := none }, accessFlags := 2, code := none }
def k2c1 : Code := { maxStack := 6, maxLocals := 5, code := prog_2_method_9_code, exceptionTable := #[], attributes := #[] }
def k2m1 : Method := { name := "uint64BigEndian", desc := "([BI)J", sig := { parameters := [(.array .byte), .int], returnType := some .long }, accessFlags := 8, code := some k2c1 }
/-- com/example/ringward/ringward/Digests -/
def k2 : Class := { plain "com/example/ringward/ringward/Digests" (some 0) with
  accessFlags := 48
  interfaces := #[]
  cf := some (fileOf pool2 8 #[] #[{ accessFlags := 2, nameIndex := 5, descriptorIndex := 6, attributes := #[] }, { accessFlags := 8, nameIndex := 119, descriptorIndex := 43, attributes := #[] }] 48 2 #[] #[{ accessFlags := 26, nameIndex := 97, descriptorIndex := 98, attributes := #[] }, { accessFlags := 26, nameIndex := 100, descriptorIndex := 98, attributes := #[] }, { accessFlags := 26, nameIndex := 101, descriptorIndex := 98, attributes := #[] }, { accessFlags := 26, nameIndex := 102, descriptorIndex := 98, attributes := #[] }, { accessFlags := 26, nameIndex := 103, descriptorIndex := 98, attributes := #[] }, { accessFlags := 26, nameIndex := 104, descriptorIndex := 105, attributes := #[] }, { accessFlags := 26, nameIndex := 11, descriptorIndex := 12, attributes := #[] }])
  fields := #[{ name := "XXH_P1", type := .long, accessFlags := 26, slot := 0, constantValue := 0 }, { name := "XXH_P2", type := .long, accessFlags := 26, slot := 1, constantValue := 0 }, { name := "XXH_P3", type := .long, accessFlags := 26, slot := 2, constantValue := 0 }, { name := "XXH_P4", type := .long, accessFlags := 26, slot := 3, constantValue := 0 }, { name := "XXH_P5", type := .long, accessFlags := 26, slot := 4, constantValue := 0 }, { name := "XXH_BLOCK", type := .int, accessFlags := 26, slot := 5, constantValue := 0 }, { name := "SHA256", type := (.object "java/lang/ThreadLocal"), accessFlags := 26, slot := 6, constantValue := 0 }]
  methods := #[k2m0, k2m1]
  instanceTypes := #[]
  staticTypes := #[.long, .long, .long, .long, .long, .int, (.object "java/lang/ThreadLocal")]
  resolved := Array.replicate 152 none
  statics := none }

def pool3 : Array CpInfo := pool [(1, u "java/lang/Cloneable"), (0, .class_ 1), (0, u "java/lang/Object"), (0, .class_ 3)] 3

/-- java/lang/Cloneable -/
def k3 : Class := { plain "java/lang/Cloneable" (some 0) with
  accessFlags := 1537
  interfaces := #[]
  cf := some (fileOf pool3 2 #[] #[] 1537 4 #[] #[])
  fields := #[]
  methods := #[]
  instanceTypes := #[]
  staticTypes := #[]
  resolved := Array.replicate 8 none
  statics := none }

def pool4 : Array CpInfo := pool [(1, u "java/io/Serializable"), (0, .class_ 1), (0, u "java/lang/Object"), (0, .class_ 3)] 3

/-- java/io/Serializable -/
def k4 : Class := { plain "java/io/Serializable" (some 0) with
  accessFlags := 1537
  interfaces := #[]
  cf := some (fileOf pool4 2 #[] #[] 1537 4 #[] #[])
  fields := #[]
  methods := #[]
  instanceTypes := #[]
  staticTypes := #[]
  resolved := Array.replicate 8 none
  statics := none }

/-- the primitive byte -/
def k5 : Class := { plain "byte" none with kind := .primitive 'B', accessFlags := 0x411 }
/-- [B -/
def k6 : Class := { plain "[B" (some 0) with kind := .array 5 .byte, interfaces := #[3, 4], accessFlags := 1041 }

/-- the primitive int -/
def k7 : Class := { plain "int" none with kind := .primitive 'I', accessFlags := 0x411 }
/-- [I -/
def k8 : Class := { plain "[I" (some 0) with kind := .array 7 .int, interfaces := #[3, 4], accessFlags := 1041 }

def heap : Heap := #[]
def classes : Array Class := #[k0, k1, k2, k3, k4, k5, k6, k7, k8]
def interned : List (Array UInt16 × Addr) := []
def slotsUsed : Nat := 0
def theMethod : MethodId := ⟨1, 1⟩
def args0 : Array Value := #[.long 5, .int 3, .long 7]
def aboutOver (below : List Frame) : State where
  vm := { classes := classes, interned := interned.toArray }
  heap := heap
  slotsUsed := slotsUsed
  threads := #[{ frames := .invoking theMethod args0 :: below }]
def below0 : List Frame := [.native { method := ⟨0, 0⟩, args := #[] }]
def about1 : State := aboutOver below0
def p0 : Program := .bare "" "" ""
def e0 : Env := launch0.env 0 0 0
theorem w_frames : about1.frames = Frame.invoking theMethod args0 :: below0 := rfl
set_option maxRecDepth 65536 in
theorem w_args : argsFit about1.vm theMethod args0 = true := by decide +kernel
set_option maxRecDepth 65536 in
theorem w_heap : heapFits about1 = true := by decide +kernel
set_option maxRecDepth 65536 in
theorem w_runnable : about1.curStatus? = some .runnable := by decide +kernel
set_option maxRecDepth 65536 in
theorem w_alone : about1.alone = true := by decide +kernel
set_option maxRecDepth 65536 in
theorem w_named : about1.methodNamed? x = some theMethod := by decide +kernel
set_option maxRecDepth 65536 in
theorem w_hears : about1.hears theMethod below0 = true := by decide +kernel
set_option maxRecDepth 65536 in
theorem w_ripe : about1.ripe theMethod args0 below0 = true := by decide +kernel
theorem w_running : about1.status = .running := rfl
set_option maxRecDepth 65536 in
theorem w_room : about1.hasRoom e0.platform room_1 = true :=
  launch0.hasRoom_least _ room_1 (by decide +kernel) (by decide +kernel) (by decide +kernel) (by decide +kernel) (by decide +kernel) (by decide +kernel)
theorem allAtoms_all (ts : List Jvm.Cond) (a : Array Jvm.Value) (st : Jvm.State) : (allAtoms ts).before a st = ts.all (fun c => c.before a st) := by
  induction ts with
  | nil => rfl
  | cons c t ih =>
    show (Jvm.Cond.and c (allAtoms t)).before a st = _
    rw [Jvm.Cond.before_and, ih, List.all_cons]
def words1 : List Jvm.Cond := Jvm.Cond.code x code maxLocals ret :: tables_1
/-- a 'code' word, met by the world's own term for the bytes: nothing is compared byte by byte -/
theorem code_word {y : MethodName} {bytes : ByteArray} {mx : Nat} {rt : Option FieldType} {a : Array Value} {s : State} {m : MethodId} {meth : Method} {c : Code} (h1 : s.methodNamed? y = some m) (h2 : s.vm.method? m = some meth) (h3 : meth.code = some c) (h4 : c.code = bytes)
    (h5 : (c.maxLocals == mx && c.exceptionTable.isEmpty && decide (c.maxStack ≤ mostOperands) && decide (meth.sig.returnType = rt) && !meth.locks && decide (parseMethodDescriptor y.desc = some meth.sig)) = true) : (Jvm.Cond.code y bytes mx rt).before a s = true := by
  simp only [Bool.and_eq_true, beq_iff_eq, Bool.not_eq_true', decide_eq_true_eq] at h5
  obtain ⟨⟨⟨⟨⟨g1, g2⟩, g3⟩, g4⟩, g5⟩, g6⟩ := h5
  simp [Cond.before, Cond.holds, Cond.value, h1, h2, h3, h4, g1, g2, g3, g4, g5, g6]
def isCode : Jvm.Cond → Bool
  | .code _ _ _ _ => true
  | _ => false
theorem all_split {L : List Jvm.Cond} {P : Jvm.Cond → Bool} (h1 : L.all (fun c => isCode c || P c) = true) (h2 : ∀ c ∈ L.filter isCode, P c = true) : L.all P = true := by
  refine List.all_eq_true.mpr fun c hc => ?_
  have h := List.all_eq_true.mp h1 c hc
  rcases Bool.eq_false_or_eq_true (isCode c) with hi | hi
  · exact h2 c (List.mem_filter.mpr ⟨hc, hi⟩)
  · simpa [hi] using h
set_option maxRecDepth 65536 in
theorem w_c0 : (Jvm.Cond.code x code maxLocals ret).before args0 about1 = true := code_word (m := ⟨1, 1⟩) (meth := k1m1) (c := k1c1) (by decide +kernel) rfl rfl rfl (by decide +kernel)
set_option maxRecDepth 65536 in
theorem w_c1 : (Jvm.Cond.code ({ cls := "com/example/ringward/ringward/Digests", name := "uint64BigEndian", desc := "([BI)J" } : Jvm.MethodName) prog_2_method_9_code (5 : Nat) (Option.some Jvm.ClassFile.FieldType.long)).before args0 about1 = true := code_word (m := ⟨2, 1⟩) (meth := k2m1) (c := k2c1) (by decide +kernel) rfl rfl rfl (by decide +kernel)
def codes1 : List Jvm.Cond := [Jvm.Cond.code x code maxLocals ret, Jvm.Cond.code ({ cls := "com/example/ringward/ringward/Digests", name := "uint64BigEndian", desc := "([BI)J" } : Jvm.MethodName) prog_2_method_9_code (5 : Nat) (Option.some Jvm.ClassFile.FieldType.long)]
set_option maxRecDepth 65536 in
theorem codes_eq : words1.filter isCode = codes1 := rfl
theorem w_codes : ∀ c ∈ words1.filter isCode, c.before args0 about1 = true := by
  rw [codes_eq]
  intro c hc
  simp only [codes1, List.mem_cons, List.not_mem_nil, or_false] at hc
  rcases hc with rfl | rfl
  · exact w_c0
  · exact w_c1
set_option maxRecDepth 65536 in
theorem w_t1 : words1.all (fun c => isCode c || c.before args0 about1) = true := by decide +kernel
theorem w_tables : (allAtoms (Jvm.Cond.code x code maxLocals ret :: tables_1)).before args0 about1 = true := by
  rw [allAtoms_all]
  show words1.all (fun c => c.before args0 about1) = true
  refine all_split ?_ w_codes
  rw [w_t1]
set_option maxRecDepth 65536 in
theorem w_case : (Jvm.Cond.and given_1 narrow_1).before args0 about1 = true := by decide +kernel
theorem w_applies : (headSpec (Jvm.Cond.code x code maxLocals ret :: tables_1) room_1).applies x e0.platform about1 = true :=
  (Spec.applies_iff w_frames).mpr ⟨w_running, w_runnable, w_alone, w_named, w_hears, w_ripe, w_room, w_tables⟩
theorem atStart : AtStart classFile x code maxLocals ret World_1 tables_1 room_1 Calls_1 rest_1 Pre_1 launch0 p0 e0 about1 theMethod args0 below0 :=
  ⟨lists_1, trivial, launch0.admits_env _ _ _, launch0.least_env, fairChoices_fair.cas, fairChoices_fair.clock, w_frames, w_args, w_heap, w_applies, trivial, trivial, w_case⟩
end start1
theorem witness_1 : WitnessClaimed_1 := ⟨start1.p0, start1.e0, start1.about1, start1.theMethod, start1.args0, start1.below0, start1.atStart⟩
end Jvm.Pilot.@@N@@
