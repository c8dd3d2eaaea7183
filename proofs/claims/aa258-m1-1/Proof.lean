import JvmDerived
import JvmDerived.Pilot.@@N@@Statement
import JvmDerived.Pilot.@@N@@Code
set_option linter.unusedVariables false
set_option linter.unusedSimpArgs false
@@BLOCK:NumsL.lean.txt@@
namespace Jvm.RoadKit
open Sem ClassFile Op Lib Jvm.Stand Jvm.Free Jvm.LawKit
section Own
variable {p : Program} {l : Launch} {e : Env} {R : Room} {s : State} {m : MethodId} {args : Array Value} {below : List Frame} {meth : Method} {c : Code} {T : State} {locs : List Loc} {cells slots : Nat} {Z : State} {h h' : Heap} {Q : Option Value → Heap → List Loc → Prop} {kc ks : Nat}
/-- from the state S the run comes to an end of which Q holds -/
def OGo (p : Program) (e : Env) (below : List Frame) (s : State) (Q : Option Value → Heap → List Loc → Prop) (kc ks : Nat) (S : State) : Prop :=
  ∃ s₂ o, Steps p.tables e below S s₂ ∧ s₂.status = .running ∧ Ended s₂ below o ∧ ∃ v L, o = .returned v ∧ Q v s₂.heap L ∧ FrameEnd s o s₂ L kc ks
theorem OGo.on {C N : State} (st : ∀ t, Steps p.tables e below N t → Steps p.tables e below C t) (h : OGo p e below s Q kc ks N) : OGo p e below s Q kc ks C := by
  obtain ⟨s₂, o, h1, h2⟩ := h
  exact ⟨s₂, o, st _ h1, h2⟩
theorem OGo.fin (X : Stand p l e R s m args below meth c T locs cells slots) {v : Option Value} (hv : meth.sig.returnType = none → v = none) (hlocks : meth.locks = false) {C : State}
    (st : ∀ fs, (∀ (f : JFrame) (acts : List Action), f.method = m → f.locked = none → f.entered = [] → (doReturn e (T.setTop f) acts v).1 = T.setFrames fs) → Steps p.tables e below C (T.setFrames fs)) (hq : Q v T.heap locs) (hc : cells ≤ kc) (hs : slots ≤ ks) : OGo p e below s Q kc ks C := by
  obtain ⟨fs, hr, hrun, hended, hW, hsame⟩ := X.leave hv hlocks
  exact ⟨_, _, st fs hr, hrun, hended, v, locs, rfl, hq, ⟨_, rfl⟩, hW, hsame.mono hc hs⟩
theorem OGo.retN (X : Stand p l e R s m args below meth c T locs cells slots) (hx : p.tables.exec = Jvm.exec) {pc : Nat} {Ls : Array Slot} {z : Int32} {t : FieldType} {rest : List Value} (hret : meth.sig.returnType = some t) (hlocks : meth.locks = false) (ht : t = .boolean ∨ t = .byte ∨ t = .char ∨ t = .short)
    (hd : decode c.code pc = .ok (.ireturn, 1)) (hq : Q (some (.int (nar t z))) T.heap locs) (hc : cells ≤ kc) (hs : slots ≤ ks) : OGo p e below s Q kc ks (T.setTop (mkF m pc Ls (.int z :: rest))) :=
  OGo.fin X (fun h => by rw [hret] at h; cases h) hlocks (fun fs hr => Jvm.RoadKit.retN X hx hret ht hd hr) hq hc hs
theorem OGo.retI (X : Stand p l e R s m args below meth c T locs cells slots) (hx : p.tables.exec = Jvm.exec) {pc : Nat} {Ls : Array Slot} {z : Int32} {rest : List Value} (hret : meth.sig.returnType = some .int) (hlocks : meth.locks = false)
    (hd : decode c.code pc = .ok (.ireturn, 1)) (hq : Q (some (.int z)) T.heap locs) (hc : cells ≤ kc) (hs : slots ≤ ks) : OGo p e below s Q kc ks (T.setTop (mkF m pc Ls (.int z :: rest))) :=
  OGo.fin X (fun h => by rw [hret] at h; cases h) hlocks (fun fs hr => retOut X hx hret rfl (Or.inl ⟨rfl, Or.inl rfl, _, rfl⟩) hd hr) hq hc hs
theorem OGo.retJ (X : Stand p l e R s m args below meth c T locs cells slots) (hx : p.tables.exec = Jvm.exec) {pc : Nat} {Ls : Array Slot} {z : Int64} {rest : List Value} (hret : meth.sig.returnType = some .long) (hlocks : meth.locks = false)
    (hd : decode c.code pc = .ok (.lreturn, 1)) (hq : Q (some (.long z)) T.heap locs) (hc : cells ≤ kc) (hs : slots ≤ ks) : OGo p e below s Q kc ks (T.setTop (mkF m pc Ls (.long z :: rest))) :=
  OGo.fin X (fun h => by rw [hret] at h; cases h) hlocks (fun fs hr => retOut X hx hret rfl (Or.inr (Or.inl ⟨rfl, rfl, _, rfl⟩)) hd hr) hq hc hs
theorem OGo.retA (X : Stand p l e R s m args below meth c T locs cells slots) (hx : p.tables.exec = Jvm.exec) {pc : Nat} {Ls : Array Slot} {a : Addr} {t : FieldType} {rest : List Value} (hret : meth.sig.returnType = some t) (ht : t.isReference = true) (hn : narrow t (.ref a) = .ref a) (hlocks : meth.locks = false)
    (hd : decode c.code pc = .ok (.areturn, 1)) (hq : Q (some (.ref a)) T.heap locs) (hc : cells ≤ kc) (hs : slots ≤ ks) : OGo p e below s Q kc ks (T.setTop (mkF m pc Ls (.ref a :: rest))) :=
  OGo.fin X (fun h => by rw [hret] at h; cases h) hlocks (fun fs hr => retOut X hx hret hn (Or.inr (Or.inr (Or.inr (Or.inr ⟨rfl, ht, rfl⟩)))) hd hr) hq hc hs
theorem OGo.ret0 (X : Stand p l e R s m args below meth c T locs cells slots) (hx : p.tables.exec = Jvm.exec) {pc : Nat} {Ls : Array Slot} (hret : meth.sig.returnType = none) (hlocks : meth.locks = false)
    (hd : decode c.code pc = .ok (.return_, 1)) (hq : Q none T.heap locs) (hc : cells ≤ kc) (hs : slots ≤ ks) : OGo p e below s Q kc ks (T.setTop (mkF m pc Ls [])) :=
  OGo.fin X (fun _ => rfl) hlocks (fun fs hr => X.returnOut hx hret hd hr) hq hc hs
/-- what a body that writes nothing leaves -/
def OPure (n0 : Nat) (h0 : Heap) (r : Option Value) (v : Option Value) (h : Heap) (L : List Loc) : Prop := v = r ∧ Fr n0 L ∧ h = h0
theorem opI {n0 : Nat} {h0 : Heap} {x y : Int32} {L : List Loc} (q : x = y) (N : Fr n0 L) (E : h = h0) : OPure n0 h0 (some (.int y)) (some (.int x)) h L := ⟨by rw [q], N, E⟩
theorem opJ {n0 : Nat} {h0 : Heap} {x y : Int64} {L : List Loc} (q : x = y) (N : Fr n0 L) (E : h = h0) : OPure n0 h0 (some (.long y)) (some (.long x)) h L := ⟨by rw [q], N, E⟩
theorem own_nz1 : nar .boolean 1 = 1 := rfl
theorem own_nz0 : nar .boolean 0 = 0 := rfl
theorem own_irem {C : State} {x y : Int32} {g : JFrame} (X : Stand p l e R s m args below meth c T locs cells slots) (hx : p.tables.exec = Jvm.exec) (hg : g.method = m) {rest : List Value} (hd : decode c.code g.pc = .ok (.irem, 1)) (hs : g.stack = .int y :: .int x :: rest) (hy : y ≠ 0) :
    ∀ t, Steps p.tables e below (T.setTop { g with pc := g.pc + 1, stack := .int (x % y) :: rest }) t → Steps p.tables e below (T.setTop g) t := fun t k => iremM X hx hg hd hs hy k
/-! lcmp and the branch behind it -/
theorem own_lc (cd : ClassFile.Cond) (a b : Int64) : ifCond.holds cd (lcmpW a b) = (match cd with | .eq => decide (a = b) | .ne => !decide (a = b) | .lt => decide (a < b) | .ge => !decide (a < b) | .gt => decide (b < a) | .le => !decide (b < a)) := by
  have h1 : a = b ↔ a.toInt = b.toInt := (Int64.toInt_inj).symm
  by_cases g : a > b
  · have g' : b.toInt < a.toInt := Int64.lt_iff_toInt_lt.mp g
    have e1 : lcmpW a b = 1 := if_pos g
    have e2 : ¬ a = b := fun q => by rw [h1] at q; omega
    have e3 : ¬ a < b := fun q => by rw [Int64.lt_iff_toInt_lt] at q; omega
    have e4 : b < a := g
    rw [e1]; cases cd <;> simp [e2, e3, e4] <;> decide
  · by_cases q : a = b
    · have e1 : lcmpW a b = 0 := by rw [lcmpW, if_neg g, if_pos q]
      subst q
      have e3 : ¬ a < a := fun q => by rw [Int64.lt_iff_toInt_lt] at q; omega
      rw [e1]; cases cd <;> simp [e3] <;> decide
    · have e1 : lcmpW a b = -1 := by rw [lcmpW, if_neg g, if_neg q]
      have g1 : ¬ b < a := g
      have g2 : a < b := by rw [Int64.lt_iff_toInt_lt] at g1 ⊢; rw [h1] at q; omega
      rw [e1]; cases cd <;> simp [q, g1, g2] <;> decide
theorem lc_tlt {a b : Int64} (h : a < b) : ifCond.holds .lt (lcmpW a b) = true ∧ ifCond.holds .ge (lcmpW a b) = false ∧ ifCond.holds .gt (lcmpW b a) = true ∧ ifCond.holds .le (lcmpW b a) = false := by simp only [own_lc]; simp [h]
theorem lc_flt {a b : Int64} (h : ¬ a < b) : ifCond.holds .lt (lcmpW a b) = false ∧ ifCond.holds .ge (lcmpW a b) = true ∧ ifCond.holds .gt (lcmpW b a) = false ∧ ifCond.holds .le (lcmpW b a) = true := by simp only [own_lc]; simp [h]
theorem lc_teq {a b : Int64} (h : a = b) : ifCond.holds .eq (lcmpW a b) = true ∧ ifCond.holds .ne (lcmpW a b) = false := by simp only [own_lc]; simp [h]
theorem lc_feq {a b : Int64} (h : ¬ a = b) : ifCond.holds .eq (lcmpW a b) = false ∧ ifCond.holds .ne (lcmpW a b) = true := by simp only [own_lc]; simp [h]
theorem own_nm0 {a : Addr} : a ∉ ([] : List Addr) := fun q => nomatch q
theorem own_nm1 {a b : Addr} (h : a ≠ b) : a ∉ [b] := fun q => h (List.mem_singleton.mp q)
theorem own_nm2 {a b d : Addr} (h : a ≠ b) (h' : a ≠ d) : a ∉ [b, d] := fun q => (List.mem_cons.mp q).elim h fun q => h' (List.mem_singleton.mp q)
theorem own_nm3 {a b d f : Addr} (h : a ≠ b) (h' : a ≠ d) (h'' : a ≠ f) : a ∉ [b, d, f] := fun q => (List.mem_cons.mp q).elim h fun q => (own_nm2 h' h'') q
/-! arrays of numbers, known whole -/
/-- the array at a holds just the ints vs -/
def OAL (Z : State) (h : Heap) (a : Addr) (ty : FieldType) (vs : List Int32) : Prop := ∃ c : Cell, Arr Z h a c ty ∧ c.slots = (vs.map Value.int).toArray
/-- the array at a holds just the longs vs -/
def OAJ (Z : State) (h : Heap) (a : Addr) (vs : List Int64) : Prop := ∃ c : Cell, Arr Z h a c .long ∧ c.slots = (vs.map Value.long).toArray
/-- the place j lies inside and holds v -/
def OAt {α : Type} (vs : List α) (j : Int32) (v : α) : Prop := ¬ j < 0 ∧ vs[j.toNatClampNeg]? = some v
variable {a b : Addr} {ty : FieldType} {vs : List Int32} {us : List Int64} {ws : List Addr} {sl : Nat} {w : Value}
theorem OAL.lt (A : OAL Z h a ty vs) : a < h.size := by obtain ⟨c, A, -⟩ := A; exact A.lt
theorem OAJ.lt (A : OAJ Z h a us) : a < h.size := by obtain ⟨c, A, -⟩ := A; exact A.lt
theorem OAL.ext (A : OAL Z h a ty vs) (E : Ext h h') : OAL Z h' a ty vs := by obtain ⟨c, A, r⟩ := A; exact ⟨c, A.ext E, r⟩
theorem OAJ.ext (A : OAJ Z h a us) (E : Ext h h') : OAJ Z h' a us := by obtain ⟨c, A, r⟩ := A; exact ⟨c, A.ext E, r⟩
theorem OAL.keep (A : OAL Z h a ty vs) (K : Keep h h' ws) (q : a ∉ ws) : OAL Z h' a ty vs := by obtain ⟨c, A, r⟩ := A; exact ⟨c, ⟨K.2.1 a c A.1 q, A.2⟩, r⟩
theorem OAJ.keep (A : OAJ Z h a us) (K : Keep h h' ws) (q : a ∉ ws) : OAJ Z h' a us := by obtain ⟨c, A, r⟩ := A; exact ⟨c, ⟨K.2.1 a c A.1 q, A.2⟩, r⟩
theorem OAL.other (A : OAL Z h b ty vs) (W : Wr h h' a sl w) (q : b ≠ a) : OAL Z h' b ty vs := by obtain ⟨c, A, r⟩ := A; exact ⟨c, A.other W q, r⟩
theorem OAJ.other (A : OAJ Z h b us) (W : Wr h h' a sl w) (q : b ≠ a) : OAJ Z h' b us := by obtain ⟨c, A, r⟩ := A; exact ⟨c, A.other W q, r⟩
theorem own_slots (cl : Cell) (i : Nat) (v : Value) : (cl.setSlot i v).slots = cl.slots.setIfInBounds i v := rfl
theorem OAL.same (A : OAL Z h a ty vs) {i : Nat} {x : Int32} (W : Wr h h' a i (.int x)) : OAL Z h' a ty (vs.set i x) := by
  obtain ⟨c, A, r⟩ := A
  exact ⟨_, A.same W, by rw [own_slots, r]; simp [List.map_set]⟩
theorem OAJ.same (A : OAJ Z h a us) {i : Nat} {x : Int64} (W : Wr h h' a i (.long x)) : OAJ Z h' a (us.set i x) := by
  obtain ⟨c, A, r⟩ := A
  exact ⟨_, A.same W, by rw [own_slots, r]; simp [List.map_set]⟩
theorem OAL.new {cA : ClassId} {n : Int32} (A : Arr Z h a (newA cA ty n) ty) (q : defaultValue ty = .int 0) : OAL Z h a ty (List.replicate n.toNatClampNeg 0) := ⟨_, A, by
  show Array.replicate n.toNatClampNeg (defaultValue ty) = _
  rw [q]; simp⟩
theorem OAJ.new {cA : ClassId} {n : Int32} (A : Arr Z h a (newA cA .long n) .long) : OAJ Z h a (List.replicate n.toNatClampNeg 0) := ⟨_, A, by
  show Array.replicate n.toNatClampNeg (Value.long 0) = _
  simp⟩
theorem own_in {α : Type} {vs : List α} {f : α → Value} {j : Int32} {v : α} {cl : Cell} (r : cl.slots = (vs.map f).toArray) (q : OAt vs j v) : ¬ (j < 0 ∨ cl.slots.size ≤ j.toNatClampNeg) ∧ cl.slots[j.toNatClampNeg]? = some (f v) := by
  obtain ⟨q1, q2⟩ := q
  have hl := (List.getElem?_eq_some_iff.mp q2).1
  rw [r]
  refine ⟨fun z => z.elim q1 fun y => ?_, ?_⟩
  · simp at y; omega
  · simp [q2]
theorem OAL.baB (X : Stand p l e R s m args below meth c T locs cells slots) (hx : p.tables.exec = Jvm.exec) (hZ : Z.Warmed39 s.vm) (eT : T.heap = h) (A : OAL Z h a .byte vs) {j v : Int32} (q : OAt vs j v) {pc : Nat} {Ls : Array Slot} {rest : List Value} (hd : decode c.code pc = .ok (.baload, 1)) {t : State}
    (k : Steps p.tables e below (T.setTop (mkF m (pc + 1) Ls (.int v :: rest))) t) : Steps p.tables e below (T.setTop (mkF m pc Ls (.int j :: .ref a :: rest))) t := by
  obtain ⟨cl, A, r⟩ := A
  exact X.baloadBytes hx (j := j) (v := .int v) (by rw [eT]; exact A.1) (State.isArrayOf_alike hZ.alike A.2.1) A.2.2 (own_in r q).1 (own_in r q).2 (g := mkF m pc Ls (.int j :: .ref a :: rest)) rfl rfl hd _ k
theorem OAL.baZ (X : Stand p l e R s m args below meth c T locs cells slots) (hx : p.tables.exec = Jvm.exec) (hZ : Z.Warmed39 s.vm) (eT : T.heap = h) (A : OAL Z h a .boolean vs) {j v : Int32} (q : OAt vs j v) {pc : Nat} {Ls : Array Slot} {rest : List Value} (hd : decode c.code pc = .ok (.baload, 1)) {t : State}
    (k : Steps p.tables e below (T.setTop (mkF m (pc + 1) Ls (.int v :: rest))) t) : Steps p.tables e below (T.setTop (mkF m pc Ls (.int j :: .ref a :: rest))) t := by
  obtain ⟨cl, A, r⟩ := A
  exact X.baloadBooleans hx (j := j) (v := .int v) (by rw [eT]; exact A.1) (State.isArrayOf_alike hZ.alike A.2.1) A.2.2 (own_in r q).1 (own_in r q).2 (g := mkF m pc Ls (.int j :: .ref a :: rest)) rfl rfl hd _ k
theorem OAL.ia (X : Stand p l e R s m args below meth c T locs cells slots) (hx : p.tables.exec = Jvm.exec) (hZ : Z.Warmed39 s.vm) (eT : T.heap = h) (A : OAL Z h a .int vs) {j v : Int32} (q : OAt vs j v) {pc : Nat} {Ls : Array Slot} {rest : List Value} (hd : decode c.code pc = .ok (.iaload, 1)) {t : State}
    (k : Steps p.tables e below (T.setTop (mkF m (pc + 1) Ls (.int v :: rest))) t) : Steps p.tables e below (T.setTop (mkF m pc Ls (.int j :: .ref a :: rest))) t := by
  obtain ⟨cl, A, r⟩ := A
  exact X.iaload hx (j := j) (v := .int v) (by rw [eT]; exact A.1) (State.isArrayOf_alike hZ.alike A.2.1) A.2.2 (own_in r q).1 (own_in r q).2 (g := mkF m pc Ls (.int j :: .ref a :: rest)) rfl rfl hd _ k
theorem OAJ.la (X : Stand p l e R s m args below meth c T locs cells slots) (hx : p.tables.exec = Jvm.exec) (hZ : Z.Warmed39 s.vm) (eT : T.heap = h) (A : OAJ Z h a us) {j : Int32} {v : Int64} (q : OAt us j v) {pc : Nat} {Ls : Array Slot} {rest : List Value} (hd : decode c.code pc = .ok (.laload, 1)) {t : State}
    (k : Steps p.tables e below (T.setTop (mkF m (pc + 1) Ls (.long v :: rest))) t) : Steps p.tables e below (T.setTop (mkF m pc Ls (.int j :: .ref a :: rest))) t := by
  obtain ⟨cl, A, r⟩ := A
  exact X.laload hx (j := j) (v := .long v) (by rw [eT]; exact A.1) (State.isArrayOf_alike hZ.alike A.2.1) A.2.2 (own_in r q).1 (own_in r q).2 (g := mkF m pc Ls (.int j :: .ref a :: rest)) rfl rfl hd _ k
theorem OAL.len (X : Stand p l e R s m args below meth c T locs cells slots) (hx : p.tables.exec = Jvm.exec) (hZ : Z.Warmed39 s.vm) (eT : T.heap = h) (A : OAL Z h a ty vs) {n : Int32} (q : vs.length.toInt32 = n) {pc : Nat} {Ls : Array Slot} {rest : List Value} (hd : decode c.code pc = .ok (.arraylength, 1)) {t : State}
    (k : Steps p.tables e below (T.setTop (mkF m (pc + 1) Ls (.int n :: rest))) t) : Steps p.tables e below (T.setTop (mkF m pc Ls (.ref a :: rest))) t := by
  obtain ⟨cl, A, r⟩ := A
  have z : cl.slots.size = vs.length := by rw [r]; simp
  exact X.arraylength hx (by rw [eT]; exact A.1) (State.isArrayOf_alike hZ.alike A.2.1) (g := mkF m pc Ls (.ref a :: rest)) rfl rfl hd _ (by rw [z, q]; exact k)
theorem OAJ.len (X : Stand p l e R s m args below meth c T locs cells slots) (hx : p.tables.exec = Jvm.exec) (hZ : Z.Warmed39 s.vm) (eT : T.heap = h) (A : OAJ Z h a us) {n : Int32} (q : us.length.toInt32 = n) {pc : Nat} {Ls : Array Slot} {rest : List Value} (hd : decode c.code pc = .ok (.arraylength, 1)) {t : State}
    (k : Steps p.tables e below (T.setTop (mkF m (pc + 1) Ls (.int n :: rest))) t) : Steps p.tables e below (T.setTop (mkF m pc Ls (.ref a :: rest))) t := by
  obtain ⟨cl, A, r⟩ := A
  have z : cl.slots.size = us.length := by rw [r]; simp
  exact X.arraylength hx (by rw [eT]; exact A.1) (State.isArrayOf_alike hZ.alike A.2.1) (g := mkF m pc Ls (.ref a :: rest)) rfl rfl hd _ (by rw [z, q]; exact k)
theorem own_into {α : Type} {vs : List α} {f : α → Value} {j : Int32} {cl : Cell} (r : cl.slots = (vs.map f).toArray) (q1 : ¬ j < 0) (q2 : j.toNatClampNeg < vs.length) : ¬ (j < 0 ∨ cl.slots.size ≤ j.toNatClampNeg) := by
  rw [r]
  exact fun z => z.elim q1 fun y => by simp at y; omega
theorem OAL.stB (X : Stand p l e R s m args below meth c T locs cells slots) (hx : p.tables.exec = Jvm.exec) (hZ : Z.Warmed39 s.vm) (eT : T.heap = h) (A : OAL Z h a .byte vs) {j x : Int32} (q1 : ¬ j < 0) (q2 : j.toNatClampNeg < vs.length) {pc : Nat} {Ls : Array Slot} {rest : List Value} (hd : decode c.code pc = .ok (.bastore, 1)) :
    ∃ T' h', Stand p l e R s m args below meth c T' (locs ++ [⟨a, j.toNatClampNeg⟩]) cells slots ∧ T'.heap = h' ∧ Wr h h' a j.toNatClampNeg (.int (nar .byte x)) ∧ OAL Z h' a .byte (vs.set j.toNatClampNeg (nar .byte x)) ∧ ∀ t, Steps p.tables e below (T'.setTop (mkF m (pc + 1) Ls rest)) t → Steps p.tables e below (T.setTop (mkF m pc Ls (.int x :: .int j :: .ref a :: rest))) t := by
  obtain ⟨cl, A', r⟩ := A
  obtain ⟨T', h', X', e', W', st⟩ := Jvm.RoadKit.stB X hx hZ eT A' (j := j) (x := x) (own_into r q1 q2) (g := mkF m pc Ls (.int x :: .int j :: .ref a :: rest)) rfl rfl hd
  exact ⟨T', h', X', e', W', OAL.same ⟨cl, A', r⟩ W', st⟩
theorem OAL.stZ (X : Stand p l e R s m args below meth c T locs cells slots) (hx : p.tables.exec = Jvm.exec) (hZ : Z.Warmed39 s.vm) (eT : T.heap = h) (A : OAL Z h a .boolean vs) {j x : Int32} (q1 : ¬ j < 0) (q2 : j.toNatClampNeg < vs.length) {pc : Nat} {Ls : Array Slot} {rest : List Value} (hd : decode c.code pc = .ok (.bastore, 1)) :
    ∃ T' h', Stand p l e R s m args below meth c T' (locs ++ [⟨a, j.toNatClampNeg⟩]) cells slots ∧ T'.heap = h' ∧ Wr h h' a j.toNatClampNeg (.int (nar .boolean x)) ∧ OAL Z h' a .boolean (vs.set j.toNatClampNeg (nar .boolean x)) ∧ ∀ t, Steps p.tables e below (T'.setTop (mkF m (pc + 1) Ls rest)) t → Steps p.tables e below (T.setTop (mkF m pc Ls (.int x :: .int j :: .ref a :: rest))) t := by
  obtain ⟨cl, A', r⟩ := A
  obtain ⟨T', h', X', e', W', st⟩ := Jvm.RoadKit.stZ X hx hZ eT A' (j := j) (x := x) (own_into r q1 q2) (g := mkF m pc Ls (.int x :: .int j :: .ref a :: rest)) rfl rfl hd
  exact ⟨T', h', X', e', W', OAL.same ⟨cl, A', r⟩ W', st⟩
theorem OAL.stI (X : Stand p l e R s m args below meth c T locs cells slots) (hx : p.tables.exec = Jvm.exec) (hZ : Z.Warmed39 s.vm) (eT : T.heap = h) (A : OAL Z h a .int vs) {j x : Int32} (q1 : ¬ j < 0) (q2 : j.toNatClampNeg < vs.length) {pc : Nat} {Ls : Array Slot} {rest : List Value} (hd : decode c.code pc = .ok (.iastore, 1)) :
    ∃ T' h', Stand p l e R s m args below meth c T' (locs ++ [⟨a, j.toNatClampNeg⟩]) cells slots ∧ T'.heap = h' ∧ Wr h h' a j.toNatClampNeg (.int x) ∧ OAL Z h' a .int (vs.set j.toNatClampNeg x) ∧ ∀ t, Steps p.tables e below (T'.setTop (mkF m (pc + 1) Ls rest)) t → Steps p.tables e below (T.setTop (mkF m pc Ls (.int x :: .int j :: .ref a :: rest))) t := by
  obtain ⟨cl, A', r⟩ := A
  obtain ⟨T', h', X', e', W', st⟩ := Jvm.RoadKit.stI X hx hZ eT A' (j := j) (x := x) (own_into r q1 q2) (g := mkF m pc Ls (.int x :: .int j :: .ref a :: rest)) rfl rfl hd
  exact ⟨T', h', X', e', W', OAL.same ⟨cl, A', r⟩ W', st⟩
theorem OAJ.stJ (X : Stand p l e R s m args below meth c T locs cells slots) (hx : p.tables.exec = Jvm.exec) (hZ : Z.Warmed39 s.vm) (eT : T.heap = h) (A : OAJ Z h a us) {j : Int32} {x : Int64} (q1 : ¬ j < 0) (q2 : j.toNatClampNeg < us.length) {pc : Nat} {Ls : Array Slot} {rest : List Value} (hd : decode c.code pc = .ok (.lastore, 1)) :
    ∃ T' h', Stand p l e R s m args below meth c T' (locs ++ [⟨a, j.toNatClampNeg⟩]) cells slots ∧ T'.heap = h' ∧ Wr h h' a j.toNatClampNeg (.long x) ∧ OAJ Z h' a (us.set j.toNatClampNeg x) ∧ ∀ t, Steps p.tables e below (T'.setTop (mkF m (pc + 1) Ls rest)) t → Steps p.tables e below (T.setTop (mkF m pc Ls (.long x :: .int j :: .ref a :: rest))) t := by
  obtain ⟨cl, A', r⟩ := A
  obtain ⟨T', h', X', e', W', st⟩ := Jvm.RoadKit.stJ X hx hZ eT A' (j := j) (x := x) (own_into r q1 q2) (g := mkF m pc Ls (.long x :: .int j :: .ref a :: rest)) rfl rfl hd
  exact ⟨T', h', X', e', W', OAJ.same ⟨cl, A', r⟩ W', st⟩
end Own
end Jvm.RoadKit
namespace Jvm.Pilot.@@N@@
open Jvm Jvm.ClassFile Sem Op Lib Jvm.Free Jvm.Stand Jvm.LawKit Jvm.RoadKit Bundle Jvm.Pilot.@@N@@.Jvm.D
theorem own_fin (b k : Int32) {m : Nat} (hm : m < 32) (hk : k.toBitVec.toNat = 2 ^ m - 1) : ∃ n : Nat, n < 2 ^ m ∧ b &&& k = Int32.ofNat n := by
  have e := Jvm.Kit.i32_mask b k hm hk
  have p : (0 : Int) < 2 ^ m := Int.pow_pos (by decide)
  have h1 := Int.emod_nonneg b.toInt (b := 2 ^ m) (by omega)
  have h2 := Int.emod_lt_of_pos b.toInt p
  have h3 : (2 : Nat) ^ m ≤ 2 ^ 31 := Nat.pow_le_pow_right (by decide) (by omega)
  have h4 : ((2 ^ m : Nat) : Int) = (2 : Int) ^ m := by simp
  refine ⟨(b.toInt % 2 ^ m).toNat, by omega, ?_⟩
  rw [← Int32.toInt_inj, e, Int32.toInt_ofNat_of_lt (by omega)]; omega
theorem own_all63 {P : Int32 → Prop} (b : Int32) (h : ∀ n : Fin 64, P (Int32.ofNat n.val)) : P (b &&& 63) := by
  obtain ⟨n, hn, q⟩ := own_fin b 63 (m := 6) (by decide) (by decide)
  rw [q]; exact h ⟨n, hn⟩
def own_und (t : Int32) : Int32 := if t = 0 ∨ (¬ t < 4 ∧ ¬ 14 < t) ∨ (¬ t < 19 ∧ ¬ 47 < t) ∨ ¬ t < 49 then 1 else 0
def own_def (t : Int32) : Int32 := if t = 1 ∨ t = 2 ∨ t = 3 ∨ t = 15 ∨ t = 16 ∨ t = 17 ∨ t = 18 ∨ t = 48 then 1 else 0
theorem own_k0 (b : Int32) : own_def (b &&& 63) = 0 → own_und (b &&& 63) = 1 := own_all63 (P := fun t => own_def t = 0 → own_und t = 1) b (by decide +kernel)
theorem own_k1 (b : Int32) : ¬ own_def (b &&& 63) = 0 → own_und (b &&& 63) = 0 := own_all63 (P := fun t => ¬ own_def t = 0 → own_und t = 0) b (by decide +kernel)
theorem d1_0 : decode prog_47_method_7_code 0 = .ok (.iload_n 0, 1) := by decide +kernel
theorem d1_1 : decode prog_47_method_7_code 1 = .ok (.ifCond .eq 32, 3) := by decide +kernel
theorem d1_4 : decode prog_47_method_7_code 4 = .ok (.iload_n 0, 1) := by decide +kernel
theorem d1_5 : decode prog_47_method_7_code 5 = .ok (.iconst 4, 1) := by decide +kernel
theorem d1_6 : decode prog_47_method_7_code 6 = .ok (.if_icmp .lt 9, 3) := by decide +kernel
theorem d1_9 : decode prog_47_method_7_code 9 = .ok (.iload_n 0, 1) := by decide +kernel
theorem d1_10 : decode prog_47_method_7_code 10 = .ok (.bipush 14, 2) := by decide +kernel
theorem d1_12 : decode prog_47_method_7_code 12 = .ok (.if_icmp .le 21, 3) := by decide +kernel
theorem d1_15 : decode prog_47_method_7_code 15 = .ok (.iload_n 0, 1) := by decide +kernel
theorem d1_16 : decode prog_47_method_7_code 16 = .ok (.bipush 19, 2) := by decide +kernel
theorem d1_18 : decode prog_47_method_7_code 18 = .ok (.if_icmp .lt 9, 3) := by decide +kernel
theorem d1_21 : decode prog_47_method_7_code 21 = .ok (.iload_n 0, 1) := by decide +kernel
theorem d1_22 : decode prog_47_method_7_code 22 = .ok (.bipush 47, 2) := by decide +kernel
theorem d1_24 : decode prog_47_method_7_code 24 = .ok (.if_icmp .le 9, 3) := by decide +kernel
theorem d1_27 : decode prog_47_method_7_code 27 = .ok (.iload_n 0, 1) := by decide +kernel
theorem d1_28 : decode prog_47_method_7_code 28 = .ok (.bipush 49, 2) := by decide +kernel
theorem d1_30 : decode prog_47_method_7_code 30 = .ok (.if_icmp .lt 7, 3) := by decide +kernel
theorem d1_33 : decode prog_47_method_7_code 33 = .ok (.iconst 1, 1) := by decide +kernel
theorem d1_34 : decode prog_47_method_7_code 34 = .ok (.goto 4, 3) := by decide +kernel
theorem d1_37 : decode prog_47_method_7_code 37 = .ok (.iconst 0, 1) := by decide +kernel
theorem d1_38 : decode prog_47_method_7_code 38 = .ok (.ireturn, 1) := by decide +kernel
theorem own_pn0 : plainName "com/example/weaverbird/weaverbird/link/LinkFrames" = true := by first | (simp [plainName, overriddenIn]; done) | decide +kernel
theorem ef_own_m1 (m : MethodId) (x0 : Int32) : entryFrame m #[(.int x0)] 1 = mkF m 0 #[.val (.int x0)] [] := by first | (simp [entryFrame, mkF, argsToLocals, Value.category]; done) | rfl
set_option maxRecDepth 65536 in
set_option maxHeartbeats 40000000 in
theorem own_m1 (l : Launch) (Z : State) (a0 : Array Value) (hw : ∀ d ∈ tables_1, d.before a0 Z = true) (ws : List Jvm.Cond) (vt : Int32) (h0 : Heap) (n0 : Nat) (Z0 : n0 ≤ h0.size)  :
    MetFree l (⟨"com/example/weaverbird/weaverbird/link/LinkFrames", "isUndefined", "(I)Z"⟩ : MethodName) (head1 (Jvm.Cond.code (⟨"com/example/weaverbird/weaverbird/link/LinkFrames", "isUndefined", "(I)Z"⟩ : MethodName) prog_47_method_7_code 1 (some .boolean) :: ws) ({ frames := 0, cells := 0, slots := 0, locals := 0 } : Room)) (fun a U => a = #[(.int vt)] ∧ Z.Warmed39 U.vm ∧ U.heap = h0) (fun _ _ _ _ _ => True) (fun _ U o U' => ∃ v L, o = .returned v ∧ (OPure n0 h0 (some (.int (own_und vt)))) v U'.heap L ∧ FrameEnd U o U' L ({ frames := 0, cells := 0, slots := 0, locals := 0 } : Room).cells ({ frames := 0, cells := 0, slots := 0, locals := 0 } : Room).slots) := by
  refine MetFree.of_bodySF (plainFor_of_name own_pn0) hisR ?_
  intro p e s m args below meth c s₁ Bd hml0 hP hK
  obtain ⟨rfl, hZ, hh⟩ := hP
  have hx := Bd.exec
  have hby := Bd.bytes
  have hret := Bd.returns
  have hlk : meth.locks = false := Bd.notSynchronized
  have hml : c.maxLocals = 1 := hml0
  have hown : s.vm.findClass "com/example/weaverbird/weaverbird/link/LinkFrames" = some m.cls := findClass_of_methodNamed Bd.named
  have hnm := (name_of_methodNamed Bd.named Bd.method).1
  have X0 : Stand p l e ({ frames := 0, cells := 0, slots := 0, locals := 0 } : Room) s m #[(.int vt)] below meth c s₁ [] 0 0 := Stand.of_body Bd
  have e0 : s₁.heap = h0 := by rw [← hh, Bd.state]; rfl
  have N0 := Fr.nil n0
  have pre0 : ∀ t, Steps p.tables e below (s₁.setTop (mkF m 0 #[.val (.int vt)] [])) t → Steps p.tables e below (s₁.setTop (entryFrame m #[(.int vt)] 1)) t := fun t k => castTop (ef_own_m1 m vt) k
  show OGo p e below s (OPure n0 h0 (some (.int (own_und vt)))) ({ frames := 0, cells := 0, slots := 0, locals := 0 } : Room).cells ({ frames := 0, cells := 0, slots := 0, locals := 0 } : Room).slots (s₁.setTop (entryFrame m #[(.int vt)] 1))
  refine OGo.on pre0 ?_
  show OGo p e below s _ _ _ (s₁.setTop (mkF m 0 #[.val (.int vt)] []))
  refine OGo.on (fun t k => XS.iloadN X0.here hx rfl (hb hby d1_0) rfl k) ?_
  show OGo p e below s _ _ _ (s₁.setTop (mkF m 1 #[.val (.int vt)] [(.int vt)]))
  by_cases hc1 : vt = (0 : Int32)
  · refine OGo.on (fun t k => XS.ifYes X0.here hx rfl (pc0 := 1) (pc' := 33) rfl (hb hby d1_1) rfl ((if0 _ _).trans (teq hc1).1) (by decide) (by decide) k) ?_
    show OGo p e below s _ _ _ (s₁.setTop (mkF m 33 #[.val (.int vt)] []))
    refine OGo.on (fun t k => XS.iconst X0.here hx rfl (hb hby d1_33) k) ?_
    show OGo p e below s _ _ _ (s₁.setTop (mkF m 34 #[.val (.int vt)] [(.int (1 : Int32))]))
    refine OGo.on (fun t k => XS.goto X0.here hx rfl (pc0 := 34) (pc' := 38) rfl (hb hby d1_34) (by decide) (by decide) k) ?_
    show OGo p e below s _ _ _ (s₁.setTop (mkF m 38 #[.val (.int vt)] [(.int (1 : Int32))]))
    exact OGo.retN X0 hx (t := .boolean) hret hlk (by simp) (hb hby d1_38) (opI (by rw [own_nz1]; simp [own_und, hc1]) N0 e0) (by decide) (by decide)
  · refine OGo.on (fun t k => XS.ifNo X0.here hx rfl (hb hby d1_1) rfl ((if0 _ _).trans (feq hc1).1) k) ?_
    show OGo p e below s _ _ _ (s₁.setTop (mkF m 4 #[.val (.int vt)] []))
    refine OGo.on (fun t k => XS.iloadN X0.here hx rfl (hb hby d1_4) rfl k) ?_
    show OGo p e below s _ _ _ (s₁.setTop (mkF m 5 #[.val (.int vt)] [(.int vt)]))
    refine OGo.on (fun t k => XS.iconst X0.here hx rfl (hb hby d1_5) k) ?_
    show OGo p e below s _ _ _ (s₁.setTop (mkF m 6 #[.val (.int vt)] [(.int (4 : Int32)), (.int vt)]))
    by_cases hc2 : vt < (4 : Int32)
    · refine OGo.on (fun t k => XS.icmpYes X0.here hx rfl (pc0 := 6) (pc' := 15) rfl (hb hby d1_6) rfl (tlt hc2).1 (by decide) (by decide) k) ?_
      show OGo p e below s _ _ _ (s₁.setTop (mkF m 15 #[.val (.int vt)] []))
      refine OGo.on (fun t k => XS.iloadN X0.here hx rfl (hb hby d1_15) rfl k) ?_
      show OGo p e below s _ _ _ (s₁.setTop (mkF m 16 #[.val (.int vt)] [(.int vt)]))
      refine OGo.on (fun t k => XS.bipush X0.here hx rfl (hb hby d1_16) k) ?_
      show OGo p e below s _ _ _ (s₁.setTop (mkF m 18 #[.val (.int vt)] [(.int (19 : Int32)), (.int vt)]))
      by_cases hc3 : vt < (19 : Int32)
      · refine OGo.on (fun t k => XS.icmpYes X0.here hx rfl (pc0 := 18) (pc' := 27) rfl (hb hby d1_18) rfl (tlt hc3).1 (by decide) (by decide) k) ?_
        show OGo p e below s _ _ _ (s₁.setTop (mkF m 27 #[.val (.int vt)] []))
        refine OGo.on (fun t k => XS.iloadN X0.here hx rfl (hb hby d1_27) rfl k) ?_
        show OGo p e below s _ _ _ (s₁.setTop (mkF m 28 #[.val (.int vt)] [(.int vt)]))
        refine OGo.on (fun t k => XS.bipush X0.here hx rfl (hb hby d1_28) k) ?_
        show OGo p e below s _ _ _ (s₁.setTop (mkF m 30 #[.val (.int vt)] [(.int (49 : Int32)), (.int vt)]))
        by_cases hc4 : vt < (49 : Int32)
        · refine OGo.on (fun t k => XS.icmpYes X0.here hx rfl (pc0 := 30) (pc' := 37) rfl (hb hby d1_30) rfl (tlt hc4).1 (by decide) (by decide) k) ?_
          show OGo p e below s _ _ _ (s₁.setTop (mkF m 37 #[.val (.int vt)] []))
          refine OGo.on (fun t k => XS.iconst X0.here hx rfl (hb hby d1_37) k) ?_
          show OGo p e below s _ _ _ (s₁.setTop (mkF m 38 #[.val (.int vt)] [(.int (0 : Int32))]))
          exact OGo.retN X0 hx (t := .boolean) hret hlk (by simp) (hb hby d1_38) (opI (by rw [own_nz0]; simp [own_und, hc1, hc2, hc3, hc4]) N0 e0) (by decide) (by decide)
        · refine OGo.on (fun t k => XS.icmpNo X0.here hx rfl (hb hby d1_30) rfl (flt hc4).1 k) ?_
          show OGo p e below s _ _ _ (s₁.setTop (mkF m 33 #[.val (.int vt)] []))
          refine OGo.on (fun t k => XS.iconst X0.here hx rfl (hb hby d1_33) k) ?_
          show OGo p e below s _ _ _ (s₁.setTop (mkF m 34 #[.val (.int vt)] [(.int (1 : Int32))]))
          refine OGo.on (fun t k => XS.goto X0.here hx rfl (pc0 := 34) (pc' := 38) rfl (hb hby d1_34) (by decide) (by decide) k) ?_
          show OGo p e below s _ _ _ (s₁.setTop (mkF m 38 #[.val (.int vt)] [(.int (1 : Int32))]))
          exact OGo.retN X0 hx (t := .boolean) hret hlk (by simp) (hb hby d1_38) (opI (by rw [own_nz1]; simp [own_und, hc1, hc2, hc3, hc4]) N0 e0) (by decide) (by decide)
      · refine OGo.on (fun t k => XS.icmpNo X0.here hx rfl (hb hby d1_18) rfl (flt hc3).1 k) ?_
        show OGo p e below s _ _ _ (s₁.setTop (mkF m 21 #[.val (.int vt)] []))
        refine OGo.on (fun t k => XS.iloadN X0.here hx rfl (hb hby d1_21) rfl k) ?_
        show OGo p e below s _ _ _ (s₁.setTop (mkF m 22 #[.val (.int vt)] [(.int vt)]))
        refine OGo.on (fun t k => XS.bipush X0.here hx rfl (hb hby d1_22) k) ?_
        show OGo p e below s _ _ _ (s₁.setTop (mkF m 24 #[.val (.int vt)] [(.int (47 : Int32)), (.int vt)]))
        by_cases hc5 : (47 : Int32) < vt
        · refine OGo.on (fun t k => XS.icmpNo X0.here hx rfl (hb hby d1_24) rfl (tlt hc5).2.2.2 k) ?_
          show OGo p e below s _ _ _ (s₁.setTop (mkF m 27 #[.val (.int vt)] []))
          refine OGo.on (fun t k => XS.iloadN X0.here hx rfl (hb hby d1_27) rfl k) ?_
          show OGo p e below s _ _ _ (s₁.setTop (mkF m 28 #[.val (.int vt)] [(.int vt)]))
          refine OGo.on (fun t k => XS.bipush X0.here hx rfl (hb hby d1_28) k) ?_
          show OGo p e below s _ _ _ (s₁.setTop (mkF m 30 #[.val (.int vt)] [(.int (49 : Int32)), (.int vt)]))
          by_cases hc6 : vt < (49 : Int32)
          · refine OGo.on (fun t k => XS.icmpYes X0.here hx rfl (pc0 := 30) (pc' := 37) rfl (hb hby d1_30) rfl (tlt hc6).1 (by decide) (by decide) k) ?_
            show OGo p e below s _ _ _ (s₁.setTop (mkF m 37 #[.val (.int vt)] []))
            refine OGo.on (fun t k => XS.iconst X0.here hx rfl (hb hby d1_37) k) ?_
            show OGo p e below s _ _ _ (s₁.setTop (mkF m 38 #[.val (.int vt)] [(.int (0 : Int32))]))
            exact OGo.retN X0 hx (t := .boolean) hret hlk (by simp) (hb hby d1_38) (opI (by rw [own_nz0]; simp [own_und, hc1, hc2, hc3, hc5, hc6]) N0 e0) (by decide) (by decide)
          · refine OGo.on (fun t k => XS.icmpNo X0.here hx rfl (hb hby d1_30) rfl (flt hc6).1 k) ?_
            show OGo p e below s _ _ _ (s₁.setTop (mkF m 33 #[.val (.int vt)] []))
            refine OGo.on (fun t k => XS.iconst X0.here hx rfl (hb hby d1_33) k) ?_
            show OGo p e below s _ _ _ (s₁.setTop (mkF m 34 #[.val (.int vt)] [(.int (1 : Int32))]))
            refine OGo.on (fun t k => XS.goto X0.here hx rfl (pc0 := 34) (pc' := 38) rfl (hb hby d1_34) (by decide) (by decide) k) ?_
            show OGo p e below s _ _ _ (s₁.setTop (mkF m 38 #[.val (.int vt)] [(.int (1 : Int32))]))
            exact OGo.retN X0 hx (t := .boolean) hret hlk (by simp) (hb hby d1_38) (opI (by rw [own_nz1]; simp [own_und, hc1, hc2, hc3, hc5, hc6]) N0 e0) (by decide) (by decide)
        · refine OGo.on (fun t k => XS.icmpYes X0.here hx rfl (pc0 := 24) (pc' := 33) rfl (hb hby d1_24) rfl (flt hc5).2.2.2 (by decide) (by decide) k) ?_
          show OGo p e below s _ _ _ (s₁.setTop (mkF m 33 #[.val (.int vt)] []))
          refine OGo.on (fun t k => XS.iconst X0.here hx rfl (hb hby d1_33) k) ?_
          show OGo p e below s _ _ _ (s₁.setTop (mkF m 34 #[.val (.int vt)] [(.int (1 : Int32))]))
          refine OGo.on (fun t k => XS.goto X0.here hx rfl (pc0 := 34) (pc' := 38) rfl (hb hby d1_34) (by decide) (by decide) k) ?_
          show OGo p e below s _ _ _ (s₁.setTop (mkF m 38 #[.val (.int vt)] [(.int (1 : Int32))]))
          exact OGo.retN X0 hx (t := .boolean) hret hlk (by simp) (hb hby d1_38) (opI (by rw [own_nz1]; simp [own_und, hc1, hc2, hc3, hc5]) N0 e0) (by decide) (by decide)
    · refine OGo.on (fun t k => XS.icmpNo X0.here hx rfl (hb hby d1_6) rfl (flt hc2).1 k) ?_
      show OGo p e below s _ _ _ (s₁.setTop (mkF m 9 #[.val (.int vt)] []))
      refine OGo.on (fun t k => XS.iloadN X0.here hx rfl (hb hby d1_9) rfl k) ?_
      show OGo p e below s _ _ _ (s₁.setTop (mkF m 10 #[.val (.int vt)] [(.int vt)]))
      refine OGo.on (fun t k => XS.bipush X0.here hx rfl (hb hby d1_10) k) ?_
      show OGo p e below s _ _ _ (s₁.setTop (mkF m 12 #[.val (.int vt)] [(.int (14 : Int32)), (.int vt)]))
      by_cases hc7 : (14 : Int32) < vt
      · refine OGo.on (fun t k => XS.icmpNo X0.here hx rfl (hb hby d1_12) rfl (tlt hc7).2.2.2 k) ?_
        show OGo p e below s _ _ _ (s₁.setTop (mkF m 15 #[.val (.int vt)] []))
        refine OGo.on (fun t k => XS.iloadN X0.here hx rfl (hb hby d1_15) rfl k) ?_
        show OGo p e below s _ _ _ (s₁.setTop (mkF m 16 #[.val (.int vt)] [(.int vt)]))
        refine OGo.on (fun t k => XS.bipush X0.here hx rfl (hb hby d1_16) k) ?_
        show OGo p e below s _ _ _ (s₁.setTop (mkF m 18 #[.val (.int vt)] [(.int (19 : Int32)), (.int vt)]))
        by_cases hc8 : vt < (19 : Int32)
        · refine OGo.on (fun t k => XS.icmpYes X0.here hx rfl (pc0 := 18) (pc' := 27) rfl (hb hby d1_18) rfl (tlt hc8).1 (by decide) (by decide) k) ?_
          show OGo p e below s _ _ _ (s₁.setTop (mkF m 27 #[.val (.int vt)] []))
          refine OGo.on (fun t k => XS.iloadN X0.here hx rfl (hb hby d1_27) rfl k) ?_
          show OGo p e below s _ _ _ (s₁.setTop (mkF m 28 #[.val (.int vt)] [(.int vt)]))
          refine OGo.on (fun t k => XS.bipush X0.here hx rfl (hb hby d1_28) k) ?_
          show OGo p e below s _ _ _ (s₁.setTop (mkF m 30 #[.val (.int vt)] [(.int (49 : Int32)), (.int vt)]))
          by_cases hc9 : vt < (49 : Int32)
          · refine OGo.on (fun t k => XS.icmpYes X0.here hx rfl (pc0 := 30) (pc' := 37) rfl (hb hby d1_30) rfl (tlt hc9).1 (by decide) (by decide) k) ?_
            show OGo p e below s _ _ _ (s₁.setTop (mkF m 37 #[.val (.int vt)] []))
            refine OGo.on (fun t k => XS.iconst X0.here hx rfl (hb hby d1_37) k) ?_
            show OGo p e below s _ _ _ (s₁.setTop (mkF m 38 #[.val (.int vt)] [(.int (0 : Int32))]))
            exact OGo.retN X0 hx (t := .boolean) hret hlk (by simp) (hb hby d1_38) (opI (by rw [own_nz0]; simp [own_und, hc1, hc2, hc7, hc8, hc9]) N0 e0) (by decide) (by decide)
          · refine OGo.on (fun t k => XS.icmpNo X0.here hx rfl (hb hby d1_30) rfl (flt hc9).1 k) ?_
            show OGo p e below s _ _ _ (s₁.setTop (mkF m 33 #[.val (.int vt)] []))
            refine OGo.on (fun t k => XS.iconst X0.here hx rfl (hb hby d1_33) k) ?_
            show OGo p e below s _ _ _ (s₁.setTop (mkF m 34 #[.val (.int vt)] [(.int (1 : Int32))]))
            refine OGo.on (fun t k => XS.goto X0.here hx rfl (pc0 := 34) (pc' := 38) rfl (hb hby d1_34) (by decide) (by decide) k) ?_
            show OGo p e below s _ _ _ (s₁.setTop (mkF m 38 #[.val (.int vt)] [(.int (1 : Int32))]))
            exact OGo.retN X0 hx (t := .boolean) hret hlk (by simp) (hb hby d1_38) (opI (by rw [own_nz1]; simp [own_und, hc1, hc2, hc7, hc8, hc9]) N0 e0) (by decide) (by decide)
        · refine OGo.on (fun t k => XS.icmpNo X0.here hx rfl (hb hby d1_18) rfl (flt hc8).1 k) ?_
          show OGo p e below s _ _ _ (s₁.setTop (mkF m 21 #[.val (.int vt)] []))
          refine OGo.on (fun t k => XS.iloadN X0.here hx rfl (hb hby d1_21) rfl k) ?_
          show OGo p e below s _ _ _ (s₁.setTop (mkF m 22 #[.val (.int vt)] [(.int vt)]))
          refine OGo.on (fun t k => XS.bipush X0.here hx rfl (hb hby d1_22) k) ?_
          show OGo p e below s _ _ _ (s₁.setTop (mkF m 24 #[.val (.int vt)] [(.int (47 : Int32)), (.int vt)]))
          by_cases hc10 : (47 : Int32) < vt
          · refine OGo.on (fun t k => XS.icmpNo X0.here hx rfl (hb hby d1_24) rfl (tlt hc10).2.2.2 k) ?_
            show OGo p e below s _ _ _ (s₁.setTop (mkF m 27 #[.val (.int vt)] []))
            refine OGo.on (fun t k => XS.iloadN X0.here hx rfl (hb hby d1_27) rfl k) ?_
            show OGo p e below s _ _ _ (s₁.setTop (mkF m 28 #[.val (.int vt)] [(.int vt)]))
            refine OGo.on (fun t k => XS.bipush X0.here hx rfl (hb hby d1_28) k) ?_
            show OGo p e below s _ _ _ (s₁.setTop (mkF m 30 #[.val (.int vt)] [(.int (49 : Int32)), (.int vt)]))
            by_cases hc11 : vt < (49 : Int32)
            · refine OGo.on (fun t k => XS.icmpYes X0.here hx rfl (pc0 := 30) (pc' := 37) rfl (hb hby d1_30) rfl (tlt hc11).1 (by decide) (by decide) k) ?_
              show OGo p e below s _ _ _ (s₁.setTop (mkF m 37 #[.val (.int vt)] []))
              refine OGo.on (fun t k => XS.iconst X0.here hx rfl (hb hby d1_37) k) ?_
              show OGo p e below s _ _ _ (s₁.setTop (mkF m 38 #[.val (.int vt)] [(.int (0 : Int32))]))
              exact OGo.retN X0 hx (t := .boolean) hret hlk (by simp) (hb hby d1_38) (opI (by rw [own_nz0]; simp [own_und, hc1, hc2, hc7, hc8, hc10, hc11]) N0 e0) (by decide) (by decide)
            · refine OGo.on (fun t k => XS.icmpNo X0.here hx rfl (hb hby d1_30) rfl (flt hc11).1 k) ?_
              show OGo p e below s _ _ _ (s₁.setTop (mkF m 33 #[.val (.int vt)] []))
              refine OGo.on (fun t k => XS.iconst X0.here hx rfl (hb hby d1_33) k) ?_
              show OGo p e below s _ _ _ (s₁.setTop (mkF m 34 #[.val (.int vt)] [(.int (1 : Int32))]))
              refine OGo.on (fun t k => XS.goto X0.here hx rfl (pc0 := 34) (pc' := 38) rfl (hb hby d1_34) (by decide) (by decide) k) ?_
              show OGo p e below s _ _ _ (s₁.setTop (mkF m 38 #[.val (.int vt)] [(.int (1 : Int32))]))
              exact OGo.retN X0 hx (t := .boolean) hret hlk (by simp) (hb hby d1_38) (opI (by rw [own_nz1]; simp [own_und, hc1, hc2, hc7, hc8, hc10, hc11]) N0 e0) (by decide) (by decide)
          · refine OGo.on (fun t k => XS.icmpYes X0.here hx rfl (pc0 := 24) (pc' := 33) rfl (hb hby d1_24) rfl (flt hc10).2.2.2 (by decide) (by decide) k) ?_
            show OGo p e below s _ _ _ (s₁.setTop (mkF m 33 #[.val (.int vt)] []))
            refine OGo.on (fun t k => XS.iconst X0.here hx rfl (hb hby d1_33) k) ?_
            show OGo p e below s _ _ _ (s₁.setTop (mkF m 34 #[.val (.int vt)] [(.int (1 : Int32))]))
            refine OGo.on (fun t k => XS.goto X0.here hx rfl (pc0 := 34) (pc' := 38) rfl (hb hby d1_34) (by decide) (by decide) k) ?_
            show OGo p e below s _ _ _ (s₁.setTop (mkF m 38 #[.val (.int vt)] [(.int (1 : Int32))]))
            exact OGo.retN X0 hx (t := .boolean) hret hlk (by simp) (hb hby d1_38) (opI (by rw [own_nz1]; simp [own_und, hc1, hc2, hc7, hc8, hc10]) N0 e0) (by decide) (by decide)
      · refine OGo.on (fun t k => XS.icmpYes X0.here hx rfl (pc0 := 12) (pc' := 33) rfl (hb hby d1_12) rfl (flt hc7).2.2.2 (by decide) (by decide) k) ?_
        show OGo p e below s _ _ _ (s₁.setTop (mkF m 33 #[.val (.int vt)] []))
        refine OGo.on (fun t k => XS.iconst X0.here hx rfl (hb hby d1_33) k) ?_
        show OGo p e below s _ _ _ (s₁.setTop (mkF m 34 #[.val (.int vt)] [(.int (1 : Int32))]))
        refine OGo.on (fun t k => XS.goto X0.here hx rfl (pc0 := 34) (pc' := 38) rfl (hb hby d1_34) (by decide) (by decide) k) ?_
        show OGo p e below s _ _ _ (s₁.setTop (mkF m 38 #[.val (.int vt)] [(.int (1 : Int32))]))
        exact OGo.retN X0 hx (t := .boolean) hret hlk (by simp) (hb hby d1_38) (opI (by rw [own_nz1]; simp [own_und, hc1, hc2, hc7]) N0 e0) (by decide) (by decide)
theorem d2_0 : decode method_2_code 0 = .ok (.iload_n 0, 1) := by decide +kernel
theorem d2_1 : decode method_2_code 1 = .ok (.iconst 1, 1) := by decide +kernel
theorem d2_2 : decode method_2_code 2 = .ok (.if_icmp .eq 43, 3) := by decide +kernel
theorem d2_5 : decode method_2_code 5 = .ok (.iload_n 0, 1) := by decide +kernel
theorem d2_6 : decode method_2_code 6 = .ok (.iconst 2, 1) := by decide +kernel
theorem d2_7 : decode method_2_code 7 = .ok (.if_icmp .eq 38, 3) := by decide +kernel
theorem d2_10 : decode method_2_code 10 = .ok (.iload_n 0, 1) := by decide +kernel
theorem d2_11 : decode method_2_code 11 = .ok (.iconst 3, 1) := by decide +kernel
theorem d2_12 : decode method_2_code 12 = .ok (.if_icmp .eq 33, 3) := by decide +kernel
theorem d2_15 : decode method_2_code 15 = .ok (.iload_n 0, 1) := by decide +kernel
theorem d2_16 : decode method_2_code 16 = .ok (.bipush 15, 2) := by decide +kernel
theorem d2_18 : decode method_2_code 18 = .ok (.if_icmp .eq 27, 3) := by decide +kernel
theorem d2_21 : decode method_2_code 21 = .ok (.iload_n 0, 1) := by decide +kernel
theorem d2_22 : decode method_2_code 22 = .ok (.bipush 16, 2) := by decide +kernel
theorem d2_24 : decode method_2_code 24 = .ok (.if_icmp .eq 21, 3) := by decide +kernel
theorem d2_27 : decode method_2_code 27 = .ok (.iload_n 0, 1) := by decide +kernel
theorem d2_28 : decode method_2_code 28 = .ok (.bipush 17, 2) := by decide +kernel
theorem d2_30 : decode method_2_code 30 = .ok (.if_icmp .eq 15, 3) := by decide +kernel
theorem d2_33 : decode method_2_code 33 = .ok (.iload_n 0, 1) := by decide +kernel
theorem d2_34 : decode method_2_code 34 = .ok (.bipush 18, 2) := by decide +kernel
theorem d2_36 : decode method_2_code 36 = .ok (.if_icmp .eq 9, 3) := by decide +kernel
theorem d2_39 : decode method_2_code 39 = .ok (.iload_n 0, 1) := by decide +kernel
theorem d2_40 : decode method_2_code 40 = .ok (.bipush 48, 2) := by decide +kernel
theorem d2_42 : decode method_2_code 42 = .ok (.if_icmp .ne 7, 3) := by decide +kernel
theorem d2_45 : decode method_2_code 45 = .ok (.iconst 1, 1) := by decide +kernel
theorem d2_46 : decode method_2_code 46 = .ok (.goto 4, 3) := by decide +kernel
theorem d2_49 : decode method_2_code 49 = .ok (.iconst 0, 1) := by decide +kernel
theorem d2_50 : decode method_2_code 50 = .ok (.ireturn, 1) := by decide +kernel
theorem own_pn1 : plainName "com/example/weaverbird/weaverbird/link/LinkFramesIsUndefinedPinLaw" = true := by first | (simp [plainName, overriddenIn]; done) | decide +kernel
theorem ef_own_m2 (m : MethodId) (x0 : Int32) : entryFrame m #[(.int x0)] 1 = mkF m 0 #[.val (.int x0)] [] := by first | (simp [entryFrame, mkF, argsToLocals, Value.category]; done) | rfl
set_option maxRecDepth 65536 in
set_option maxHeartbeats 40000000 in
theorem own_m2 (l : Launch) (Z : State) (a0 : Array Value) (hw : ∀ d ∈ tables_1, d.before a0 Z = true) (ws : List Jvm.Cond) (vt : Int32) (h0 : Heap) (n0 : Nat) (Z0 : n0 ≤ h0.size)  :
    MetFree l (⟨"com/example/weaverbird/weaverbird/link/LinkFramesIsUndefinedPinLaw", "defined", "(I)Z"⟩ : MethodName) (head1 (Jvm.Cond.code (⟨"com/example/weaverbird/weaverbird/link/LinkFramesIsUndefinedPinLaw", "defined", "(I)Z"⟩ : MethodName) method_2_code 1 (some .boolean) :: ws) ({ frames := 0, cells := 0, slots := 0, locals := 0 } : Room)) (fun a U => a = #[(.int vt)] ∧ Z.Warmed39 U.vm ∧ U.heap = h0) (fun _ _ _ _ _ => True) (fun _ U o U' => ∃ v L, o = .returned v ∧ (OPure n0 h0 (some (.int (own_def vt)))) v U'.heap L ∧ FrameEnd U o U' L ({ frames := 0, cells := 0, slots := 0, locals := 0 } : Room).cells ({ frames := 0, cells := 0, slots := 0, locals := 0 } : Room).slots) := by
  refine MetFree.of_bodySF (plainFor_of_name own_pn1) hisR ?_
  intro p e s m args below meth c s₁ Bd hml0 hP hK
  obtain ⟨rfl, hZ, hh⟩ := hP
  have hx := Bd.exec
  have hby := Bd.bytes
  have hret := Bd.returns
  have hlk : meth.locks = false := Bd.notSynchronized
  have hml : c.maxLocals = 1 := hml0
  have hown : s.vm.findClass "com/example/weaverbird/weaverbird/link/LinkFramesIsUndefinedPinLaw" = some m.cls := findClass_of_methodNamed Bd.named
  have hnm := (name_of_methodNamed Bd.named Bd.method).1
  have X0 : Stand p l e ({ frames := 0, cells := 0, slots := 0, locals := 0 } : Room) s m #[(.int vt)] below meth c s₁ [] 0 0 := Stand.of_body Bd
  have e0 : s₁.heap = h0 := by rw [← hh, Bd.state]; rfl
  have N0 := Fr.nil n0
  have pre0 : ∀ t, Steps p.tables e below (s₁.setTop (mkF m 0 #[.val (.int vt)] [])) t → Steps p.tables e below (s₁.setTop (entryFrame m #[(.int vt)] 1)) t := fun t k => castTop (ef_own_m2 m vt) k
  show OGo p e below s (OPure n0 h0 (some (.int (own_def vt)))) ({ frames := 0, cells := 0, slots := 0, locals := 0 } : Room).cells ({ frames := 0, cells := 0, slots := 0, locals := 0 } : Room).slots (s₁.setTop (entryFrame m #[(.int vt)] 1))
  refine OGo.on pre0 ?_
  show OGo p e below s _ _ _ (s₁.setTop (mkF m 0 #[.val (.int vt)] []))
  refine OGo.on (fun t k => XS.iloadN X0.here hx rfl (hb hby d2_0) rfl k) ?_
  show OGo p e below s _ _ _ (s₁.setTop (mkF m 1 #[.val (.int vt)] [(.int vt)]))
  refine OGo.on (fun t k => XS.iconst X0.here hx rfl (hb hby d2_1) k) ?_
  show OGo p e below s _ _ _ (s₁.setTop (mkF m 2 #[.val (.int vt)] [(.int (1 : Int32)), (.int vt)]))
  by_cases hc12 : vt = (1 : Int32)
  · refine OGo.on (fun t k => XS.icmpYes X0.here hx rfl (pc0 := 2) (pc' := 45) rfl (hb hby d2_2) rfl (teq hc12).1 (by decide) (by decide) k) ?_
    show OGo p e below s _ _ _ (s₁.setTop (mkF m 45 #[.val (.int vt)] []))
    refine OGo.on (fun t k => XS.iconst X0.here hx rfl (hb hby d2_45) k) ?_
    show OGo p e below s _ _ _ (s₁.setTop (mkF m 46 #[.val (.int vt)] [(.int (1 : Int32))]))
    refine OGo.on (fun t k => XS.goto X0.here hx rfl (pc0 := 46) (pc' := 50) rfl (hb hby d2_46) (by decide) (by decide) k) ?_
    show OGo p e below s _ _ _ (s₁.setTop (mkF m 50 #[.val (.int vt)] [(.int (1 : Int32))]))
    exact OGo.retN X0 hx (t := .boolean) hret hlk (by simp) (hb hby d2_50) (opI (by rw [own_nz1]; simp [own_def, hc12]) N0 e0) (by decide) (by decide)
  · refine OGo.on (fun t k => XS.icmpNo X0.here hx rfl (hb hby d2_2) rfl (feq hc12).1 k) ?_
    show OGo p e below s _ _ _ (s₁.setTop (mkF m 5 #[.val (.int vt)] []))
    refine OGo.on (fun t k => XS.iloadN X0.here hx rfl (hb hby d2_5) rfl k) ?_
    show OGo p e below s _ _ _ (s₁.setTop (mkF m 6 #[.val (.int vt)] [(.int vt)]))
    refine OGo.on (fun t k => XS.iconst X0.here hx rfl (hb hby d2_6) k) ?_
    show OGo p e below s _ _ _ (s₁.setTop (mkF m 7 #[.val (.int vt)] [(.int (2 : Int32)), (.int vt)]))
    by_cases hc13 : vt = (2 : Int32)
    · refine OGo.on (fun t k => XS.icmpYes X0.here hx rfl (pc0 := 7) (pc' := 45) rfl (hb hby d2_7) rfl (teq hc13).1 (by decide) (by decide) k) ?_
      show OGo p e below s _ _ _ (s₁.setTop (mkF m 45 #[.val (.int vt)] []))
      refine OGo.on (fun t k => XS.iconst X0.here hx rfl (hb hby d2_45) k) ?_
      show OGo p e below s _ _ _ (s₁.setTop (mkF m 46 #[.val (.int vt)] [(.int (1 : Int32))]))
      refine OGo.on (fun t k => XS.goto X0.here hx rfl (pc0 := 46) (pc' := 50) rfl (hb hby d2_46) (by decide) (by decide) k) ?_
      show OGo p e below s _ _ _ (s₁.setTop (mkF m 50 #[.val (.int vt)] [(.int (1 : Int32))]))
      exact OGo.retN X0 hx (t := .boolean) hret hlk (by simp) (hb hby d2_50) (opI (by rw [own_nz1]; simp [own_def, hc12, hc13]) N0 e0) (by decide) (by decide)
    · refine OGo.on (fun t k => XS.icmpNo X0.here hx rfl (hb hby d2_7) rfl (feq hc13).1 k) ?_
      show OGo p e below s _ _ _ (s₁.setTop (mkF m 10 #[.val (.int vt)] []))
      refine OGo.on (fun t k => XS.iloadN X0.here hx rfl (hb hby d2_10) rfl k) ?_
      show OGo p e below s _ _ _ (s₁.setTop (mkF m 11 #[.val (.int vt)] [(.int vt)]))
      refine OGo.on (fun t k => XS.iconst X0.here hx rfl (hb hby d2_11) k) ?_
      show OGo p e below s _ _ _ (s₁.setTop (mkF m 12 #[.val (.int vt)] [(.int (3 : Int32)), (.int vt)]))
      by_cases hc14 : vt = (3 : Int32)
      · refine OGo.on (fun t k => XS.icmpYes X0.here hx rfl (pc0 := 12) (pc' := 45) rfl (hb hby d2_12) rfl (teq hc14).1 (by decide) (by decide) k) ?_
        show OGo p e below s _ _ _ (s₁.setTop (mkF m 45 #[.val (.int vt)] []))
        refine OGo.on (fun t k => XS.iconst X0.here hx rfl (hb hby d2_45) k) ?_
        show OGo p e below s _ _ _ (s₁.setTop (mkF m 46 #[.val (.int vt)] [(.int (1 : Int32))]))
        refine OGo.on (fun t k => XS.goto X0.here hx rfl (pc0 := 46) (pc' := 50) rfl (hb hby d2_46) (by decide) (by decide) k) ?_
        show OGo p e below s _ _ _ (s₁.setTop (mkF m 50 #[.val (.int vt)] [(.int (1 : Int32))]))
        exact OGo.retN X0 hx (t := .boolean) hret hlk (by simp) (hb hby d2_50) (opI (by rw [own_nz1]; simp [own_def, hc12, hc13, hc14]) N0 e0) (by decide) (by decide)
      · refine OGo.on (fun t k => XS.icmpNo X0.here hx rfl (hb hby d2_12) rfl (feq hc14).1 k) ?_
        show OGo p e below s _ _ _ (s₁.setTop (mkF m 15 #[.val (.int vt)] []))
        refine OGo.on (fun t k => XS.iloadN X0.here hx rfl (hb hby d2_15) rfl k) ?_
        show OGo p e below s _ _ _ (s₁.setTop (mkF m 16 #[.val (.int vt)] [(.int vt)]))
        refine OGo.on (fun t k => XS.bipush X0.here hx rfl (hb hby d2_16) k) ?_
        show OGo p e below s _ _ _ (s₁.setTop (mkF m 18 #[.val (.int vt)] [(.int (15 : Int32)), (.int vt)]))
        by_cases hc15 : vt = (15 : Int32)
        · refine OGo.on (fun t k => XS.icmpYes X0.here hx rfl (pc0 := 18) (pc' := 45) rfl (hb hby d2_18) rfl (teq hc15).1 (by decide) (by decide) k) ?_
          show OGo p e below s _ _ _ (s₁.setTop (mkF m 45 #[.val (.int vt)] []))
          refine OGo.on (fun t k => XS.iconst X0.here hx rfl (hb hby d2_45) k) ?_
          show OGo p e below s _ _ _ (s₁.setTop (mkF m 46 #[.val (.int vt)] [(.int (1 : Int32))]))
          refine OGo.on (fun t k => XS.goto X0.here hx rfl (pc0 := 46) (pc' := 50) rfl (hb hby d2_46) (by decide) (by decide) k) ?_
          show OGo p e below s _ _ _ (s₁.setTop (mkF m 50 #[.val (.int vt)] [(.int (1 : Int32))]))
          exact OGo.retN X0 hx (t := .boolean) hret hlk (by simp) (hb hby d2_50) (opI (by rw [own_nz1]; simp [own_def, hc12, hc13, hc14, hc15]) N0 e0) (by decide) (by decide)
        · refine OGo.on (fun t k => XS.icmpNo X0.here hx rfl (hb hby d2_18) rfl (feq hc15).1 k) ?_
          show OGo p e below s _ _ _ (s₁.setTop (mkF m 21 #[.val (.int vt)] []))
          refine OGo.on (fun t k => XS.iloadN X0.here hx rfl (hb hby d2_21) rfl k) ?_
          show OGo p e below s _ _ _ (s₁.setTop (mkF m 22 #[.val (.int vt)] [(.int vt)]))
          refine OGo.on (fun t k => XS.bipush X0.here hx rfl (hb hby d2_22) k) ?_
          show OGo p e below s _ _ _ (s₁.setTop (mkF m 24 #[.val (.int vt)] [(.int (16 : Int32)), (.int vt)]))
          by_cases hc16 : vt = (16 : Int32)
          · refine OGo.on (fun t k => XS.icmpYes X0.here hx rfl (pc0 := 24) (pc' := 45) rfl (hb hby d2_24) rfl (teq hc16).1 (by decide) (by decide) k) ?_
            show OGo p e below s _ _ _ (s₁.setTop (mkF m 45 #[.val (.int vt)] []))
            refine OGo.on (fun t k => XS.iconst X0.here hx rfl (hb hby d2_45) k) ?_
            show OGo p e below s _ _ _ (s₁.setTop (mkF m 46 #[.val (.int vt)] [(.int (1 : Int32))]))
            refine OGo.on (fun t k => XS.goto X0.here hx rfl (pc0 := 46) (pc' := 50) rfl (hb hby d2_46) (by decide) (by decide) k) ?_
            show OGo p e below s _ _ _ (s₁.setTop (mkF m 50 #[.val (.int vt)] [(.int (1 : Int32))]))
            exact OGo.retN X0 hx (t := .boolean) hret hlk (by simp) (hb hby d2_50) (opI (by rw [own_nz1]; simp [own_def, hc12, hc13, hc14, hc15, hc16]) N0 e0) (by decide) (by decide)
          · refine OGo.on (fun t k => XS.icmpNo X0.here hx rfl (hb hby d2_24) rfl (feq hc16).1 k) ?_
            show OGo p e below s _ _ _ (s₁.setTop (mkF m 27 #[.val (.int vt)] []))
            refine OGo.on (fun t k => XS.iloadN X0.here hx rfl (hb hby d2_27) rfl k) ?_
            show OGo p e below s _ _ _ (s₁.setTop (mkF m 28 #[.val (.int vt)] [(.int vt)]))
            refine OGo.on (fun t k => XS.bipush X0.here hx rfl (hb hby d2_28) k) ?_
            show OGo p e below s _ _ _ (s₁.setTop (mkF m 30 #[.val (.int vt)] [(.int (17 : Int32)), (.int vt)]))
            by_cases hc17 : vt = (17 : Int32)
            · refine OGo.on (fun t k => XS.icmpYes X0.here hx rfl (pc0 := 30) (pc' := 45) rfl (hb hby d2_30) rfl (teq hc17).1 (by decide) (by decide) k) ?_
              show OGo p e below s _ _ _ (s₁.setTop (mkF m 45 #[.val (.int vt)] []))
              refine OGo.on (fun t k => XS.iconst X0.here hx rfl (hb hby d2_45) k) ?_
              show OGo p e below s _ _ _ (s₁.setTop (mkF m 46 #[.val (.int vt)] [(.int (1 : Int32))]))
              refine OGo.on (fun t k => XS.goto X0.here hx rfl (pc0 := 46) (pc' := 50) rfl (hb hby d2_46) (by decide) (by decide) k) ?_
              show OGo p e below s _ _ _ (s₁.setTop (mkF m 50 #[.val (.int vt)] [(.int (1 : Int32))]))
              exact OGo.retN X0 hx (t := .boolean) hret hlk (by simp) (hb hby d2_50) (opI (by rw [own_nz1]; simp [own_def, hc12, hc13, hc14, hc15, hc16, hc17]) N0 e0) (by decide) (by decide)
            · refine OGo.on (fun t k => XS.icmpNo X0.here hx rfl (hb hby d2_30) rfl (feq hc17).1 k) ?_
              show OGo p e below s _ _ _ (s₁.setTop (mkF m 33 #[.val (.int vt)] []))
              refine OGo.on (fun t k => XS.iloadN X0.here hx rfl (hb hby d2_33) rfl k) ?_
              show OGo p e below s _ _ _ (s₁.setTop (mkF m 34 #[.val (.int vt)] [(.int vt)]))
              refine OGo.on (fun t k => XS.bipush X0.here hx rfl (hb hby d2_34) k) ?_
              show OGo p e below s _ _ _ (s₁.setTop (mkF m 36 #[.val (.int vt)] [(.int (18 : Int32)), (.int vt)]))
              by_cases hc18 : vt = (18 : Int32)
              · refine OGo.on (fun t k => XS.icmpYes X0.here hx rfl (pc0 := 36) (pc' := 45) rfl (hb hby d2_36) rfl (teq hc18).1 (by decide) (by decide) k) ?_
                show OGo p e below s _ _ _ (s₁.setTop (mkF m 45 #[.val (.int vt)] []))
                refine OGo.on (fun t k => XS.iconst X0.here hx rfl (hb hby d2_45) k) ?_
                show OGo p e below s _ _ _ (s₁.setTop (mkF m 46 #[.val (.int vt)] [(.int (1 : Int32))]))
                refine OGo.on (fun t k => XS.goto X0.here hx rfl (pc0 := 46) (pc' := 50) rfl (hb hby d2_46) (by decide) (by decide) k) ?_
                show OGo p e below s _ _ _ (s₁.setTop (mkF m 50 #[.val (.int vt)] [(.int (1 : Int32))]))
                exact OGo.retN X0 hx (t := .boolean) hret hlk (by simp) (hb hby d2_50) (opI (by rw [own_nz1]; simp [own_def, hc12, hc13, hc14, hc15, hc16, hc17, hc18]) N0 e0) (by decide) (by decide)
              · refine OGo.on (fun t k => XS.icmpNo X0.here hx rfl (hb hby d2_36) rfl (feq hc18).1 k) ?_
                show OGo p e below s _ _ _ (s₁.setTop (mkF m 39 #[.val (.int vt)] []))
                refine OGo.on (fun t k => XS.iloadN X0.here hx rfl (hb hby d2_39) rfl k) ?_
                show OGo p e below s _ _ _ (s₁.setTop (mkF m 40 #[.val (.int vt)] [(.int vt)]))
                refine OGo.on (fun t k => XS.bipush X0.here hx rfl (hb hby d2_40) k) ?_
                show OGo p e below s _ _ _ (s₁.setTop (mkF m 42 #[.val (.int vt)] [(.int (48 : Int32)), (.int vt)]))
                by_cases hc19 : vt = (48 : Int32)
                · refine OGo.on (fun t k => XS.icmpNo X0.here hx rfl (hb hby d2_42) rfl (teq hc19).2 k) ?_
                  show OGo p e below s _ _ _ (s₁.setTop (mkF m 45 #[.val (.int vt)] []))
                  refine OGo.on (fun t k => XS.iconst X0.here hx rfl (hb hby d2_45) k) ?_
                  show OGo p e below s _ _ _ (s₁.setTop (mkF m 46 #[.val (.int vt)] [(.int (1 : Int32))]))
                  refine OGo.on (fun t k => XS.goto X0.here hx rfl (pc0 := 46) (pc' := 50) rfl (hb hby d2_46) (by decide) (by decide) k) ?_
                  show OGo p e below s _ _ _ (s₁.setTop (mkF m 50 #[.val (.int vt)] [(.int (1 : Int32))]))
                  exact OGo.retN X0 hx (t := .boolean) hret hlk (by simp) (hb hby d2_50) (opI (by rw [own_nz1]; simp [own_def, hc12, hc13, hc14, hc15, hc16, hc17, hc18, hc19]) N0 e0) (by decide) (by decide)
                · refine OGo.on (fun t k => XS.icmpYes X0.here hx rfl (pc0 := 42) (pc' := 49) rfl (hb hby d2_42) rfl (feq hc19).2 (by decide) (by decide) k) ?_
                  show OGo p e below s _ _ _ (s₁.setTop (mkF m 49 #[.val (.int vt)] []))
                  refine OGo.on (fun t k => XS.iconst X0.here hx rfl (hb hby d2_49) k) ?_
                  show OGo p e below s _ _ _ (s₁.setTop (mkF m 50 #[.val (.int vt)] [(.int (0 : Int32))]))
                  exact OGo.retN X0 hx (t := .boolean) hret hlk (by simp) (hb hby d2_50) (opI (by rw [own_nz0]; simp [own_def, hc12, hc13, hc14, hc15, hc16, hc17, hc18, hc19]) N0 e0) (by decide) (by decide)
theorem own_pd0 : parseMethodDescriptor "(I)Z" = some ⟨[.int], some .boolean⟩ := by decide +kernel
theorem ef_own_law (m : MethodId) (x0 : Int32) : entryFrame m #[(.int x0)] maxLocals = mkF m 0 #[.val (.int x0), .unset] [] := by first | (simp [entryFrame, mkF, argsToLocals, Value.category, maxLocals]; done) | rfl
set_option maxRecDepth 65536 in
set_option maxHeartbeats 40000000 in
theorem own_law (l : Launch) (Z : State) (a0 : Array Value) (hw : ∀ d ∈ tables_1, d.before a0 Z = true) (ws : List Jvm.Cond) (vx : Int32) (h0 : Heap) (n0 : Nat) (Z0 : n0 ≤ h0.size)  :
    MetFree l x (head1 (Jvm.Cond.code x code maxLocals ret :: ws) room_1) (fun a U => a = #[(.int vx)] ∧ Z.Warmed39 U.vm ∧ U.heap = h0) (fun _ _ _ _ _ => True) (fun _ U o U' => ∃ v L, o = .returned v ∧ (fun v h L => v = some (.int 1) ∧ Fr n0 L) v U'.heap L ∧ FrameEnd U o U' L 0 0) := by
  refine MetFree.of_bodySF (plainFor_of_name own_pn1) hisR ?_
  intro p e s m args below meth c s₁ Bd hml0 hP hK
  obtain ⟨rfl, hZ, hh⟩ := hP
  have hx := Bd.exec
  have hby := Bd.bytes
  have hret := Bd.returns
  have hlk : meth.locks = false := Bd.notSynchronized
  have hml : c.maxLocals = 2 := hml0
  have hown : s.vm.findClass "com/example/weaverbird/weaverbird/link/LinkFramesIsUndefinedPinLaw" = some m.cls := findClass_of_methodNamed Bd.named
  have hnm := (name_of_methodNamed Bd.named Bd.method).1
  have X0 : Stand p l e room_1 s m #[(.int vx)] below meth c s₁ [] 0 0 := Stand.of_body Bd
  have e0 : s₁.heap = h0 := by rw [← hh, Bd.state]; rfl
  have N0 := Fr.nil n0
  have pre0 : ∀ t, Steps p.tables e below (s₁.setTop (mkF m 0 #[.val (.int vx), .unset] [])) t → Steps p.tables e below (s₁.setTop (entryFrame m #[(.int vx)] maxLocals)) t := fun t k => castTop (ef_own_law m vx) k
  show OGo p e below s (fun v h L => v = some (.int 1) ∧ Fr n0 L) 0 0 (s₁.setTop (entryFrame m #[(.int vx)] maxLocals))
  refine OGo.on pre0 ?_
  show OGo p e below s _ _ _ (s₁.setTop (mkF m 0 #[.val (.int vx), .unset] []))
  refine OGo.on (fun t k => XS.iloadN X0.here hx rfl (hb hby at_0) rfl k) ?_
  show OGo p e below s _ _ _ (s₁.setTop (mkF m 1 #[.val (.int vx), .unset] [(.int vx)]))
  refine OGo.on (fun t k => XS.bipush X0.here hx rfl (hb hby at_1) k) ?_
  show OGo p e below s _ _ _ (s₁.setTop (mkF m 3 #[.val (.int vx), .unset] [(.int (63 : Int32)), (.int vx)]))
  refine OGo.on (fun t k => XS.iand X0.here hx rfl (hb hby at_3) rfl k) ?_
  show OGo p e below s _ _ _ (s₁.setTop (mkF m 4 #[.val (.int vx), .unset] [(.int (vx &&& (63 : Int32)))]))
  refine OGo.on (fun t k => XS.istoreN X0.here hx rfl (hb hby at_4) rfl (l' := #[.val (.int vx), .val (.int (vx &&& (63 : Int32)))]) rfl k) ?_
  show OGo p e below s _ _ _ (s₁.setTop (mkF m 5 #[.val (.int vx), .val (.int (vx &&& (63 : Int32)))] []))
  refine OGo.on (fun t k => XS.iloadN X0.here hx rfl (hb hby at_5) rfl k) ?_
  show OGo p e below s _ _ _ (s₁.setTop (mkF m 6 #[.val (.int vx), .val (.int (vx &&& (63 : Int32)))] [(.int (vx &&& (63 : Int32)))]))
  obtain ⟨_, _, ⟨T20, L20, k20, n20⟩, -, X20, ⟨Lc20, hQ20, l20, y20, z20⟩, st20⟩ := Jvm.LawKit.callS X0 hx (y := (⟨"com/example/weaverbird/weaverbird/link/LinkFrames", "isUndefined", "(I)Z"⟩ : MethodName)) hown (mvT hZ (hw _ (List.mem_of_getElem? (i := 0) rfl))) (mvT hZ (hw _ (List.mem_of_getElem? (i := 1) rfl))) (mvT hZ (hw _ (List.mem_of_getElem? (i := 2) rfl))) (mvT hZ (hw _ (List.mem_of_getElem? (i := 3) rfl))) (by decide) (backOf (W := 0) (own_m1 l Z a0 hw [] (vx &&& (63 : Int32)) h0 n0 (by assumption)) hZ (hw _ (List.mem_of_getElem? (i := 3) rfl)) (hw _ (List.mem_of_getElem? (i := 2) rfl)) (by decide) (by decide)) (g := (mkF m 6 #[.val (.int vx), .val (.int (vx &&& (63 : Int32)))] [(.int (vx &&& (63 : Int32)))])) rfl (by rw [hml]; rfl) (argsL := [(.int (vx &&& (63 : Int32)))]) (rest := []) (lenOf own_pd0 rfl) rfl (by show 2 * 0 + _ ≤ _; exact Nat.le_of_eq rfl) (hb hby at_6) (fun _ _ => ⟨rfl, e0, (by decide : 0 + 0 ≤ _), (by decide : 0 + 0 ≤ _)⟩)
  dsimp only [Pt.U, Pt.locs, Pt.cells, Pt.slots] at X20 l20 y20 z20 st20 hQ20
  subst l20 y20 z20
  obtain ⟨rfl, N20q, e20⟩ := hQ20
  have N20 := Fr.app N0 N20q
  refine OGo.on st20 ?_
  show OGo p e below s _ _ _ (T20.setTop (mkF m 9 #[.val (.int vx), .val (.int (vx &&& (63 : Int32)))] [(.int (own_und (vx &&& (63 : Int32))))]))
  refine OGo.on (fun t k => XS.iloadN X20.here hx rfl (hb hby at_9) rfl k) ?_
  show OGo p e below s _ _ _ (T20.setTop (mkF m 10 #[.val (.int vx), .val (.int (vx &&& (63 : Int32)))] [(.int (vx &&& (63 : Int32))), (.int (own_und (vx &&& (63 : Int32))))]))
  obtain ⟨_, _, ⟨T21, L21, k21, n21⟩, -, X21, ⟨Lc21, hQ21, l21, y21, z21⟩, st21⟩ := Jvm.LawKit.callS X20 hx (y := (⟨"com/example/weaverbird/weaverbird/link/LinkFramesIsUndefinedPinLaw", "defined", "(I)Z"⟩ : MethodName)) hown (mvT hZ (hw _ (List.mem_of_getElem? (i := 4) rfl))) (mvT hZ (hw _ (List.mem_of_getElem? (i := 5) rfl))) (mvT hZ (hw _ (List.mem_of_getElem? (i := 6) rfl))) (mvT hZ (hw _ (List.mem_of_getElem? (i := 7) rfl))) (by decide) (backOf (W := 1) (own_m2 l Z a0 hw [] (vx &&& (63 : Int32)) h0 n0 (by assumption)) hZ (hw _ (List.mem_of_getElem? (i := 7) rfl)) (hw _ (List.mem_of_getElem? (i := 6) rfl)) (by decide) (by decide)) (g := (mkF m 10 #[.val (.int vx), .val (.int (vx &&& (63 : Int32)))] [(.int (vx &&& (63 : Int32))), (.int (own_und (vx &&& (63 : Int32))))])) rfl (by rw [hml]; rfl) (argsL := [(.int (vx &&& (63 : Int32)))]) (rest := [(.int (own_und (vx &&& (63 : Int32))))]) (lenOf own_pd0 rfl) rfl (by show 2 * 0 + _ ≤ _; exact Nat.le_of_eq rfl) (hb hby at_10) (fun _ _ => ⟨rfl, e20, (by decide : 0 + 0 ≤ _), (by decide : 0 + 0 ≤ _)⟩)
  dsimp only [Pt.U, Pt.locs, Pt.cells, Pt.slots] at X21 l21 y21 z21 st21 hQ21
  subst l21 y21 z21
  obtain ⟨rfl, N21q, e21⟩ := hQ21
  have N21 := Fr.app N20 N21q
  refine OGo.on st21 ?_
  show OGo p e below s _ _ _ (T21.setTop (mkF m 13 #[.val (.int vx), .val (.int (vx &&& (63 : Int32)))] [(.int (own_def (vx &&& (63 : Int32)))), (.int (own_und (vx &&& (63 : Int32))))]))
  by_cases hc22 : (own_def (vx &&& (63 : Int32))) = (0 : Int32)
  · refine OGo.on (fun t k => XS.ifNo X21.here hx rfl (hb hby at_13) rfl ((if0 _ _).trans (teq hc22).2) k) ?_
    show OGo p e below s _ _ _ (T21.setTop (mkF m 16 #[.val (.int vx), .val (.int (vx &&& (63 : Int32)))] [(.int (own_und (vx &&& (63 : Int32))))]))
    refine OGo.on (fun t k => XS.iconst X21.here hx rfl (hb hby at_16) k) ?_
    show OGo p e below s _ _ _ (T21.setTop (mkF m 17 #[.val (.int vx), .val (.int (vx &&& (63 : Int32)))] [(.int (1 : Int32)), (.int (own_und (vx &&& (63 : Int32))))]))
    refine OGo.on (fun t k => XS.goto X21.here hx rfl (pc0 := 17) (pc' := 21) rfl (hb hby at_17) (by decide) (by decide) k) ?_
    show OGo p e below s _ _ _ (T21.setTop (mkF m 21 #[.val (.int vx), .val (.int (vx &&& (63 : Int32)))] [(.int (1 : Int32)), (.int (own_und (vx &&& (63 : Int32))))]))
    refine OGo.on (fun t k => XS.icmpNo X21.here hx rfl (hb hby at_21) rfl (teq (own_k0 vx hc22)).2 k) ?_
    show OGo p e below s _ _ _ (T21.setTop (mkF m 24 #[.val (.int vx), .val (.int (vx &&& (63 : Int32)))] []))
    refine OGo.on (fun t k => XS.iconst X21.here hx rfl (hb hby at_24) k) ?_
    show OGo p e below s _ _ _ (T21.setTop (mkF m 25 #[.val (.int vx), .val (.int (vx &&& (63 : Int32)))] [(.int (1 : Int32))]))
    refine OGo.on (fun t k => XS.goto X21.here hx rfl (pc0 := 25) (pc' := 29) rfl (hb hby at_25) (by decide) (by decide) k) ?_
    show OGo p e below s _ _ _ (T21.setTop (mkF m 29 #[.val (.int vx), .val (.int (vx &&& (63 : Int32)))] [(.int (1 : Int32))]))
    exact OGo.retN X21 hx (t := .boolean) hret hlk (by simp) (hb hby at_29) ⟨rfl, N21⟩ (by decide) (by decide)
  · refine OGo.on (fun t k => XS.ifYes X21.here hx rfl (pc0 := 13) (pc' := 20) rfl (hb hby at_13) rfl ((if0 _ _).trans (feq hc22).2) (by decide) (by decide) k) ?_
    show OGo p e below s _ _ _ (T21.setTop (mkF m 20 #[.val (.int vx), .val (.int (vx &&& (63 : Int32)))] [(.int (own_und (vx &&& (63 : Int32))))]))
    refine OGo.on (fun t k => XS.iconst X21.here hx rfl (hb hby at_20) k) ?_
    show OGo p e below s _ _ _ (T21.setTop (mkF m 21 #[.val (.int vx), .val (.int (vx &&& (63 : Int32)))] [(.int (0 : Int32)), (.int (own_und (vx &&& (63 : Int32))))]))
    refine OGo.on (fun t k => XS.icmpNo X21.here hx rfl (hb hby at_21) rfl (teq (own_k1 vx hc22)).2 k) ?_
    show OGo p e below s _ _ _ (T21.setTop (mkF m 24 #[.val (.int vx), .val (.int (vx &&& (63 : Int32)))] []))
    refine OGo.on (fun t k => XS.iconst X21.here hx rfl (hb hby at_24) k) ?_
    show OGo p e below s _ _ _ (T21.setTop (mkF m 25 #[.val (.int vx), .val (.int (vx &&& (63 : Int32)))] [(.int (1 : Int32))]))
    refine OGo.on (fun t k => XS.goto X21.here hx rfl (pc0 := 25) (pc' := 29) rfl (hb hby at_25) (by decide) (by decide) k) ?_
    show OGo p e below s _ _ _ (T21.setTop (mkF m 29 #[.val (.int vx), .val (.int (vx &&& (63 : Int32)))] [(.int (1 : Int32))]))
    exact OGo.retN X21 hx (t := .boolean) hret hlk (by simp) (hb hby at_29) ⟨rfl, N21⟩ (by decide) (by decide)
set_option maxRecDepth 65536 in
set_option maxHeartbeats 40000000 in
theorem comes_1 {Post : Tables → Env → Array Value → State → Outcome → State → Prop} (hpost : ∀ tb e args s v u, (limb_1_1.after args s (.returned v) u = true ∧ limb_1_2.after args s (.returned v) u = true ∧ True) → FrameEnd s (.returned v) u (Jvm.fieldLocs frame_1_writes args s ++ Jvm.arrayLocs frame_1_arrays args s ++ Jvm.staticLocs frame_1_statics s) 0 0 → Post tb e args s (.returned v) u) :
    ArmFor flags0 classFile x code maxLocals ret World_1 tables_1 room_1 Calls_1 rest_1 Pre_1 Post := by
  intro l hfl _ _ p e ha hc hk s m args below hf hA hF happ hP
  obtain ⟨hcalls, hrest, hpre⟩ := hP
  obtain ⟨-, -, -, hnamed, -, -, -, hat⟩ := (Spec.applies_iff hf).mp happ
  obtain ⟨hg, hn⟩ := and_e (Cond.before_iff.mp (show (Jvm.Cond.and given_1 narrow_1).before args s = true from hpre))
  obtain ⟨gg23, gg24⟩ := and_e hg
  obtain ⟨w0, rfl⟩ : ∃ w0 : Value, args = #[w0] := by
    have hs : args.size = 1 := by simpa [Cond.value, given_1] using gg23
    obtain ⟨L⟩ := args
    match L, hs with
    | [w0], _ => exact ⟨w0, rfl⟩
  have hw := fun d (hd : d ∈ tables_1) => atoms_spec (ws := Jvm.Cond.code x code maxLocals ret :: tables_1) hat d (List.mem_cons_of_mem _ hd)
  obtain ⟨i0, ei0⟩ := is_v gg24
  obtain rfl : w0 = (.int i0) := Option.some.inj ei0
  obtain ⟨n, o, h1, h2, h3, _, L, rfl, ⟨rfl, N⟩, hq⟩ := own_law l s _ hw tables_1 i0 s.heap s.heap.size (Nat.le_refl _)  p e ha hc hk s m _ below hf ((Spec.applies_iff_loose hf).mp happ).1 ⟨rfl, State.Warmed39.refl s, rfl⟩ trivial
  refine ⟨n, _, h1, h2, h3, hpost _ _ _ _ _ _ ⟨Cond.after_iff.mpr rfl, Cond.after_iff.mpr (eq_i res_at (Term.int_eval (1)) rfl), trivial⟩ ⟨hq.1, hq.2.1, (hq.2.2.sift fun y hy => Or.inr (N y hy)).mono (by decide) (by decide)⟩⟩
theorem main_1_1 : Claimed_1_1 := comes_1 fun _ _ _ _ _ _ h hF => ⟨h.1, hF⟩
theorem main_1_2 : Claimed_1_2 := comes_1 fun _ _ _ _ _ _ h hF => ⟨h.2.1, hF⟩
end Jvm.Pilot.@@N@@
namespace Jvm.Pilot.@@N@@
open Jvm Jvm.ClassFile Sem Op Lib Jvm.Free Jvm.Stand Jvm.Pilot.@@N@@.Jvm.D
/-! MADE BY PROGRAM (witnessworld.py) out of the Statement's table words and the real class files: 9 classes; the members and pool entries that the words name. The judged class is class 1, her method 2. -/
namespace start1
open Jvm.ClassFile
def u (s : String) : CpInfo := .utf8 (stringToUtf16 s)
/-- a pool by its gaps: so many unusable entries, then the entry; so many at the end -/
def gap : Nat → List CpInfo → List CpInfo
  | 0, r => r
  | n + 1, r => .unusable :: gap n r
def poolList (es : List (Nat × CpInfo)) (last : Nat) : List CpInfo := es.foldr (fun e r => gap e.1 (e.2 :: r)) (gap last [])
def pool (es : List (Nat × CpInfo)) (last : Nat) : Array CpInfo := ⟨poolList es last⟩
def fileOf (pool : Array CpInfo) (this : Nat) (attrs : Array Attribute := #[]) (ms : Array MethodInfo := #[]) (fl : Nat := 33) (sup : Nat := 0) (ifs : Array Nat := #[]) (fds : Array FieldInfo := #[]) : ClassFile where
  minorVersion := 0
  majorVersion := 65
  constantPool := pool
  accessFlags := fl
  thisClass := this
  superClass := sup
  interfaces := ifs
  fields := fds
  methods := ms
  attributes := attrs
def plain (name : String) (sup : Option ClassId) : Class where
  name := name
  kind := .ordinary
  loader := none
  accessFlags := 33
  super := sup
  interfaces := #[]
  cf := none
  fields := #[]
  methods := #[]
  instanceTypes := #[]
  staticTypes := #[]
  resolved := #[]
  callSites := []
  init := .initialized
  statics := none
  mirror := none

def pool0 : Array CpInfo := pool [(5, u "<init>"), (0, u "()V"), (1, .class_ 10), (1, u "java/lang/Object")] 113

def k0m0 : Method := { name := "<init>", desc := "()V", sig := { parameters := [], returnType := none }, accessFlags := 1, code := none }
/-- java/lang/Object -/
def k0 : Class := { plain "java/lang/Object" none with
  accessFlags := 33
  interfaces := #[]
  cf := some (fileOf pool0 8 #[] #[{ accessFlags := 1, nameIndex := 5, descriptorIndex := 6, attributes := #[] }] 33 0 #[] #[])
  fields := #[]
  methods := #[k0m0]
  instanceTypes := #[]
  staticTypes := #[]
  resolved := Array.replicate 124 none
  statics := none }

def pool1 : Array CpInfo := pool [(2, .class_ 4), (1, u "java/lang/Object"), (0, u "<init>"), (0, u "()V"), (0, .methodref 8 9), (0, .class_ 10), (0, .nameAndType 11 12), (0, u "com/example/weaverbird/weaverbird/link/LinkFrames"), (0, u "isUndefined"), (0, u "(I)Z"), (0, .methodref 14 15), (0, .class_ 16), (0, .nameAndType 17 12), (0, u "com/example/weaverbird/weaverbird/link/LinkFramesIsUndefinedPinLaw"), (0, u "defined"), (3, u "law")] 2

def k1m0 : Method := { name := "<init>", desc := "()V", sig := { parameters := [], returnType := none }, accessFlags := 2, code := none }
def k1c1 : Code := { maxStack := 2, maxLocals := 1, code := method_2_code, exceptionTable := #[], attributes := #[] }
def k1m1 : Method := { name := "defined", desc := "(I)Z", sig := { parameters := [.int], returnType := some .boolean }, accessFlags := 10, code := some k1c1 }
def k1c2 : Code := { maxStack := 2, maxLocals := 2, code := code, exceptionTable := #[], attributes := #[] }
def k1m2 : Method := { name := "law", desc := "(I)Z", sig := { parameters := [.int], returnType := some .boolean }, accessFlags := 9, code := some k1c2 }
/-- com/example/weaverbird/weaverbird/link/LinkFramesIsUndefinedPinLaw -/
def k1 : Class := { plain "com/example/weaverbird/weaverbird/link/LinkFramesIsUndefinedPinLaw" (some 0) with
  accessFlags := 49
  interfaces := #[]
  cf := some (fileOf pool1 14 #[] #[{ accessFlags := 2, nameIndex := 5, descriptorIndex := 6, attributes := #[] }, { accessFlags := 10, nameIndex := 17, descriptorIndex := 12, attributes := #[] }, { accessFlags := 9, nameIndex := 21, descriptorIndex := 12, attributes := #[] }] 49 2 #[] #[])
  fields := #[]
  methods := #[k1m0, k1m1, k1m2]
  instanceTypes := #[]
  staticTypes := #[]
  resolved := Array.replicate 24 none
  statics := none }

def pool2 : Array CpInfo := pool [(2, .class_ 4), (1, u "java/lang/Object"), (0, u "<init>"), (0, u "()V"), (26, .class_ 35), (1, u "com/example/weaverbird/weaverbird/link/LinkFrames"), (82, u "INITIATE_HEADER"), (0, u "I"), (2, u "PROBE"), (0, u "Lcom/example/weaverbird/weaverbird/model/Frame;"), (0, u "PROTOCOL_ERROR"), (0, u "Ljava/lang/String;"), (3, u "HANDSHAKE_FAILED"), (2, u "UNKNOWN_DESTINATION"), (2, u "UNSUPPORTED_PROTOCOL"), (2, u "UNSUPPORTED_VERSION"), (2, u "DECRYPTION_FAILED"), (2, u "TIMEOUT"), (2, u "THROTTLED"), (2, u "UNREADABLE_REASON"), (8, u "isUndefined"), (0, u "(I)Z")] 34

def k2m0 : Method := { name := "<init>", desc := "()V", sig := { parameters := [], returnType := none }, accessFlags := 2, code := none }
def k2c1 : Code := { maxStack := 2, maxLocals := 1, code := prog_47_method_7_code, exceptionTable := #[], attributes := #[] }
def k2m1 : Method := { name := "isUndefined", desc := "(I)Z", sig := { parameters := [.int], returnType := some .boolean }, accessFlags := 8, code := some k2c1 }
/-- com/example/weaverbird/weaverbird/link/LinkFrames -/
def k2 : Class := { plain "com/example/weaverbird/weaverbird/link/LinkFrames" (some 0) with
  accessFlags := 49
  interfaces := #[]
  cf := some (fileOf pool2 33 #[] #[{ accessFlags := 2, nameIndex := 5, descriptorIndex := 6, attributes := #[] }, { accessFlags := 8, nameIndex := 159, descriptorIndex := 160, attributes := #[] }] 49 2 #[] #[{ accessFlags := 25, nameIndex := 124, descriptorIndex := 125, attributes := #[] }, { accessFlags := 25, nameIndex := 129, descriptorIndex := 125, attributes := #[] }, { accessFlags := 25, nameIndex := 132, descriptorIndex := 125, attributes := #[] }, { accessFlags := 25, nameIndex := 135, descriptorIndex := 125, attributes := #[] }, { accessFlags := 25, nameIndex := 138, descriptorIndex := 125, attributes := #[] }, { accessFlags := 25, nameIndex := 141, descriptorIndex := 125, attributes := #[] }, { accessFlags := 25, nameIndex := 144, descriptorIndex := 125, attributes := #[] }, { accessFlags := 25, nameIndex := 147, descriptorIndex := 125, attributes := #[] }, { accessFlags := 24, nameIndex := 118, descriptorIndex := 119, attributes := #[] }, { accessFlags := 24, nameIndex := 122, descriptorIndex := 123, attributes := #[] }, { accessFlags := 26, nameIndex := 150, descriptorIndex := 125, attributes := #[] }])
  fields := #[{ name := "PROTOCOL_ERROR", type := (.object "java/lang/String"), accessFlags := 25, slot := 0, constantValue := 0 }, { name := "HANDSHAKE_FAILED", type := (.object "java/lang/String"), accessFlags := 25, slot := 1, constantValue := 0 }, { name := "UNKNOWN_DESTINATION", type := (.object "java/lang/String"), accessFlags := 25, slot := 2, constantValue := 0 }, { name := "UNSUPPORTED_PROTOCOL", type := (.object "java/lang/String"), accessFlags := 25, slot := 3, constantValue := 0 }, { name := "UNSUPPORTED_VERSION", type := (.object "java/lang/String"), accessFlags := 25, slot := 4, constantValue := 0 }, { name := "DECRYPTION_FAILED", type := (.object "java/lang/String"), accessFlags := 25, slot := 5, constantValue := 0 }, { name := "TIMEOUT", type := (.object "java/lang/String"), accessFlags := 25, slot := 6, constantValue := 0 }, { name := "THROTTLED", type := (.object "java/lang/String"), accessFlags := 25, slot := 7, constantValue := 0 }, { name := "INITIATE_HEADER", type := .int, accessFlags := 24, slot := 8, constantValue := 0 }, { name := "PROBE", type := (.object "com/example/weaverbird/weaverbird/model/Frame"), accessFlags := 24, slot := 9, constantValue := 0 }, { name := "UNREADABLE_REASON", type := (.object "java/lang/String"), accessFlags := 26, slot := 10, constantValue := 0 }]
  methods := #[k2m0, k2m1]
  instanceTypes := #[]
  staticTypes := #[(.object "java/lang/String"), (.object "java/lang/String"), (.object "java/lang/String"), (.object "java/lang/String"), (.object "java/lang/String"), (.object "java/lang/String"), (.object "java/lang/String"), (.object "java/lang/String"), .int, (.object "com/example/weaverbird/weaverbird/model/Frame"), (.object "java/lang/String")]
  resolved := Array.replicate 195 none
  statics := none }

def pool3 : Array CpInfo := pool [(1, u "java/lang/Cloneable"), (0, .class_ 1), (0, u "java/lang/Object"), (0, .class_ 3)] 3

/-- java/lang/Cloneable -/
def k3 : Class := { plain "java/lang/Cloneable" (some 0) with
  accessFlags := 1537
  interfaces := #[]
  cf := some (fileOf pool3 2 #[] #[] 1537 4 #[] #[])
  fields := #[]
  methods := #[]
  instanceTypes := #[]
  staticTypes := #[]
  resolved := Array.replicate 8 none
  statics := none }

def pool4 : Array CpInfo := pool [(1, u "java/io/Serializable"), (0, .class_ 1), (0, u "java/lang/Object"), (0, .class_ 3)] 3

/-- java/io/Serializable -/
def k4 : Class := { plain "java/io/Serializable" (some 0) with
  accessFlags := 1537
  interfaces := #[]
  cf := some (fileOf pool4 2 #[] #[] 1537 4 #[] #[])
  fields := #[]
  methods := #[]
  instanceTypes := #[]
  staticTypes := #[]
  resolved := Array.replicate 8 none
  statics := none }

/-- the primitive byte -/
def k5 : Class := { plain "byte" none with kind := .primitive 'B', accessFlags := 0x411 }
/-- [B -/
def k6 : Class := { plain "[B" (some 0) with kind := .array 5 .byte, interfaces := #[3, 4], accessFlags := 1041 }

/-- the primitive int -/
def k7 : Class := { plain "int" none with kind := .primitive 'I', accessFlags := 0x411 }
/-- [I -/
def k8 : Class := { plain "[I" (some 0) with kind := .array 7 .int, interfaces := #[3, 4], accessFlags := 1041 }

def heap : Heap := #[]
def classes : Array Class := #[k0, k1, k2, k3, k4, k5, k6, k7, k8]
def interned : List (Array UInt16 × Addr) := []
def slotsUsed : Nat := 0
def theMethod : MethodId := ⟨1, 2⟩
def args0 : Array Value := #[.int 5]
def aboutOver (below : List Frame) : State where
  vm := { classes := classes, interned := interned.toArray }
  heap := heap
  slotsUsed := slotsUsed
  threads := #[{ frames := .invoking theMethod args0 :: below }]
def below0 : List Frame := [.native { method := ⟨0, 0⟩, args := #[] }]
def about1 : State := aboutOver below0
def p0 : Program := .bare "" "" ""
def e0 : Env := launch0.env 0 0 0
theorem w_frames : about1.frames = Frame.invoking theMethod args0 :: below0 := rfl
set_option maxRecDepth 65536 in
theorem w_args : argsFit about1.vm theMethod args0 = true := by decide +kernel
set_option maxRecDepth 65536 in
theorem w_heap : heapFits about1 = true := by decide +kernel
set_option maxRecDepth 65536 in
theorem w_runnable : about1.curStatus? = some .runnable := by decide +kernel
set_option maxRecDepth 65536 in
theorem w_alone : about1.alone = true := by decide +kernel
set_option maxRecDepth 65536 in
theorem w_named : about1.methodNamed? x = some theMethod := by decide +kernel
set_option maxRecDepth 65536 in
theorem w_hears : about1.hears theMethod below0 = true := by decide +kernel
set_option maxRecDepth 65536 in
theorem w_ripe : about1.ripe theMethod args0 below0 = true := by decide +kernel
theorem w_running : about1.status = .running := rfl
set_option maxRecDepth 65536 in
theorem w_room : about1.hasRoom e0.platform room_1 = true :=
  launch0.hasRoom_least _ room_1 (by decide +kernel) (by decide +kernel) (by decide +kernel) (by decide +kernel) (by decide +kernel) (by decide +kernel)
theorem allAtoms_all (ts : List Jvm.Cond) (a : Array Jvm.Value) (st : Jvm.State) : (allAtoms ts).before a st = ts.all (fun c => c.before a st) := by
  induction ts with
  | nil => rfl
  | cons c t ih =>
    show (Jvm.Cond.and c (allAtoms t)).before a st = _
    rw [Jvm.Cond.before_and, ih, List.all_cons]
def words1 : List Jvm.Cond := Jvm.Cond.code x code maxLocals ret :: tables_1
/-- a 'code' word, met by the world's own term for the bytes: nothing is compared byte by byte -/
theorem code_word {y : MethodName} {bytes : ByteArray} {mx : Nat} {rt : Option FieldType} {a : Array Value} {s : State} {m : MethodId} {meth : Method} {c : Code} (h1 : s.methodNamed? y = some m) (h2 : s.vm.method? m = some meth) (h3 : meth.code = some c) (h4 : c.code = bytes)
    (h5 : (c.maxLocals == mx && c.exceptionTable.isEmpty && decide (c.maxStack ≤ mostOperands) && decide (meth.sig.returnType = rt) && !meth.locks && decide (parseMethodDescriptor y.desc = some meth.sig)) = true) : (Jvm.Cond.code y bytes mx rt).before a s = true := by
  simp only [Bool.and_eq_true, beq_iff_eq, Bool.not_eq_true', decide_eq_true_eq] at h5
  obtain ⟨⟨⟨⟨⟨g1, g2⟩, g3⟩, g4⟩, g5⟩, g6⟩ := h5
  simp [Cond.before, Cond.holds, Cond.value, h1, h2, h3, h4, g1, g2, g3, g4, g5, g6]
def isCode : Jvm.Cond → Bool
  | .code _ _ _ _ => true
  | _ => false
theorem all_split {L : List Jvm.Cond} {P : Jvm.Cond → Bool} (h1 : L.all (fun c => isCode c || P c) = true) (h2 : ∀ c ∈ L.filter isCode, P c = true) : L.all P = true := by
  refine List.all_eq_true.mpr fun c hc => ?_
  have h := List.all_eq_true.mp h1 c hc
  rcases Bool.eq_false_or_eq_true (isCode c) with hi | hi
  · exact h2 c (List.mem_filter.mpr ⟨hc, hi⟩)
  · simpa [hi] using h
set_option maxRecDepth 65536 in
theorem w_c0 : (Jvm.Cond.code x code maxLocals ret).before args0 about1 = true := code_word (m := ⟨1, 2⟩) (meth := k1m2) (c := k1c2) (by decide +kernel) rfl rfl rfl (by decide +kernel)
set_option maxRecDepth 65536 in
theorem w_c1 : (Jvm.Cond.code ({ cls := "com/example/weaverbird/weaverbird/link/LinkFrames", name := "isUndefined", desc := "(I)Z" } : Jvm.MethodName) prog_47_method_7_code (1 : Nat) (Option.some Jvm.ClassFile.FieldType.boolean)).before args0 about1 = true := code_word (m := ⟨2, 1⟩) (meth := k2m1) (c := k2c1) (by decide +kernel) rfl rfl rfl (by decide +kernel)
set_option maxRecDepth 65536 in
theorem w_c2 : (Jvm.Cond.code ({ cls := "com/example/weaverbird/weaverbird/link/LinkFramesIsUndefinedPinLaw", name := "defined", desc := "(I)Z" } : Jvm.MethodName) method_2_code (1 : Nat) (Option.some Jvm.ClassFile.FieldType.boolean)).before args0 about1 = true := code_word (m := ⟨1, 1⟩) (meth := k1m1) (c := k1c1) (by decide +kernel) rfl rfl rfl (by decide +kernel)
def codes1 : List Jvm.Cond := [Jvm.Cond.code x code maxLocals ret, Jvm.Cond.code ({ cls := "com/example/weaverbird/weaverbird/link/LinkFrames", name := "isUndefined", desc := "(I)Z" } : Jvm.MethodName) prog_47_method_7_code (1 : Nat) (Option.some Jvm.ClassFile.FieldType.boolean), Jvm.Cond.code ({ cls := "com/example/weaverbird/weaverbird/link/LinkFramesIsUndefinedPinLaw", name := "defined", desc := "(I)Z" } : Jvm.MethodName) method_2_code (1 : Nat) (Option.some Jvm.ClassFile.FieldType.boolean)]
set_option maxRecDepth 65536 in
theorem codes_eq : words1.filter isCode = codes1 := rfl
theorem w_codes : ∀ c ∈ words1.filter isCode, c.before args0 about1 = true := by
  rw [codes_eq]
  intro c hc
  simp only [codes1, List.mem_cons, List.not_mem_nil, or_false] at hc
  rcases hc with rfl | rfl | rfl
  · exact w_c0
  · exact w_c1
  · exact w_c2
set_option maxRecDepth 65536 in
theorem w_t1 : words1.all (fun c => isCode c || c.before args0 about1) = true := by decide +kernel
theorem w_tables : (allAtoms (Jvm.Cond.code x code maxLocals ret :: tables_1)).before args0 about1 = true := by
  rw [allAtoms_all]
  show words1.all (fun c => c.before args0 about1) = true
  refine all_split ?_ w_codes
  rw [w_t1]
set_option maxRecDepth 65536 in
theorem w_case : (Jvm.Cond.and given_1 narrow_1).before args0 about1 = true := by decide +kernel
theorem w_applies : (headSpec (Jvm.Cond.code x code maxLocals ret :: tables_1) room_1).applies x e0.platform about1 = true :=
  (Spec.applies_iff w_frames).mpr ⟨w_running, w_runnable, w_alone, w_named, w_hears, w_ripe, w_room, w_tables⟩
theorem atStart : AtStart classFile x code maxLocals ret World_1 tables_1 room_1 Calls_1 rest_1 Pre_1 launch0 p0 e0 about1 theMethod args0 below0 :=
  ⟨lists_1, trivial, launch0.admits_env _ _ _, launch0.least_env, fairChoices_fair.cas, fairChoices_fair.clock, w_frames, w_args, w_heap, w_applies, trivial, trivial, w_case⟩
end start1
theorem witness_1 : WitnessClaimed_1 := ⟨start1.p0, start1.e0, start1.about1, start1.theMethod, start1.args0, start1.below0, start1.atStart⟩
end Jvm.Pilot.@@N@@
