import JvmDerived
import JvmDerived.Pilot.@@N@@Statement
import JvmDerived.Pilot.@@N@@Code
set_option linter.unusedVariables false
set_option linter.unusedSimpArgs false
@@BLOCK:NumsL.lean.txt@@
namespace Jvm.RoadKit
open Sem ClassFile Op Lib Jvm.Stand Jvm.Free Jvm.LawKit
section Own
variable {p : Program} {l : Launch} {e : Env} {R : Room} {s : State} {m : MethodId} {args : Array Value} {below : List Frame} {meth : Method} {c : Code} {T : State} {locs : List Loc} {cells slots : Nat} {Z : State} {h h' : Heap} {Q : Option Value → Heap → List Loc → Prop} {kc ks : Nat}
/-- from the state S the run comes to an end of which Q holds -/
def OGo (p : Program) (e : Env) (below : List Frame) (s : State) (Q : Option Value → Heap → List Loc → Prop) (kc ks : Nat) (S : State) : Prop :=
  ∃ s₂ o, Steps p.tables e below S s₂ ∧ s₂.status = .running ∧ Ended s₂ below o ∧ ∃ v L, o = .returned v ∧ Q v s₂.heap L ∧ FrameEnd s o s₂ L kc ks
theorem OGo.on {C N : State} (st : ∀ t, Steps p.tables e below N t → Steps p.tables e below C t) (h : OGo p e below s Q kc ks N) : OGo p e below s Q kc ks C := by
  obtain ⟨s₂, o, h1, h2⟩ := h
  exact ⟨s₂, o, st _ h1, h2⟩
theorem OGo.fin (X : Stand p l e R s m args below meth c T locs cells slots) {v : Option Value} (hv : meth.sig.returnType = none → v = none) (hlocks : meth.locks = false) {C : State}
    (st : ∀ fs, (∀ (f : JFrame) (acts : List Action), f.method = m → f.locked = none → f.entered = [] → (doReturn e (T.setTop f) acts v).1 = T.setFrames fs) → Steps p.tables e below C (T.setFrames fs)) (hq : Q v T.heap locs) (hc : cells ≤ kc) (hs : slots ≤ ks) : OGo p e below s Q kc ks C := by
  obtain ⟨fs, hr, hrun, hended, hW, hsame⟩ := X.leave hv hlocks
  exact ⟨_, _, st fs hr, hrun, hended, v, locs, rfl, hq, ⟨_, rfl⟩, hW, hsame.mono hc hs⟩
theorem OGo.retN (X : Stand p l e R s m args below meth c T locs cells slots) (hx : p.tables.exec = Jvm.exec) {pc : Nat} {Ls : Array Slot} {z : Int32} {t : FieldType} {rest : List Value} (hret : meth.sig.returnType = some t) (hlocks : meth.locks = false) (ht : t = .boolean ∨ t = .byte ∨ t = .char ∨ t = .short)
    (hd : decode c.code pc = .ok (.ireturn, 1)) (hq : Q (some (.int (nar t z))) T.heap locs) (hc : cells ≤ kc) (hs : slots ≤ ks) : OGo p e below s Q kc ks (T.setTop (mkF m pc Ls (.int z :: rest))) :=
  OGo.fin X (fun h => by rw [hret] at h; cases h) hlocks (fun fs hr => Jvm.RoadKit.retN X hx hret ht hd hr) hq hc hs
theorem OGo.retI (X : Stand p l e R s m args below meth c T locs cells slots) (hx : p.tables.exec = Jvm.exec) {pc : Nat} {Ls : Array Slot} {z : Int32} {rest : List Value} (hret : meth.sig.returnType = some .int) (hlocks : meth.locks = false)
    (hd : decode c.code pc = .ok (.ireturn, 1)) (hq : Q (some (.int z)) T.heap locs) (hc : cells ≤ kc) (hs : slots ≤ ks) : OGo p e below s Q kc ks (T.setTop (mkF m pc Ls (.int z :: rest))) :=
  OGo.fin X (fun h => by rw [hret] at h; cases h) hlocks (fun fs hr => retOut X hx hret rfl (Or.inl ⟨rfl, Or.inl rfl, _, rfl⟩) hd hr) hq hc hs
theorem OGo.retJ (X : Stand p l e R s m args below meth c T locs cells slots) (hx : p.tables.exec = Jvm.exec) {pc : Nat} {Ls : Array Slot} {z : Int64} {rest : List Value} (hret : meth.sig.returnType = some .long) (hlocks : meth.locks = false)
    (hd : decode c.code pc = .ok (.lreturn, 1)) (hq : Q (some (.long z)) T.heap locs) (hc : cells ≤ kc) (hs : slots ≤ ks) : OGo p e below s Q kc ks (T.setTop (mkF m pc Ls (.long z :: rest))) :=
  OGo.fin X (fun h => by rw [hret] at h; cases h) hlocks (fun fs hr => retOut X hx hret rfl (Or.inr (Or.inl ⟨rfl, rfl, _, rfl⟩)) hd hr) hq hc hs
theorem OGo.retA (X : Stand p l e R s m args below meth c T locs cells slots) (hx : p.tables.exec = Jvm.exec) {pc : Nat} {Ls : Array Slot} {a : Addr} {t : FieldType} {rest : List Value} (hret : meth.sig.returnType = some t) (ht : t.isReference = true) (hn : narrow t (.ref a) = .ref a) (hlocks : meth.locks = false)
    (hd : decode c.code pc = .ok (.areturn, 1)) (hq : Q (some (.ref a)) T.heap locs) (hc : cells ≤ kc) (hs : slots ≤ ks) : OGo p e below s Q kc ks (T.setTop (mkF m pc Ls (.ref a :: rest))) :=
  OGo.fin X (fun h => by rw [hret] at h; cases h) hlocks (fun fs hr => retOut X hx hret hn (Or.inr (Or.inr (Or.inr (Or.inr ⟨rfl, ht, rfl⟩)))) hd hr) hq hc hs
theorem OGo.ret0 (X : Stand p l e R s m args below meth c T locs cells slots) (hx : p.tables.exec = Jvm.exec) {pc : Nat} {Ls : Array Slot} (hret : meth.sig.returnType = none) (hlocks : meth.locks = false)
    (hd : decode c.code pc = .ok (.return_, 1)) (hq : Q none T.heap locs) (hc : cells ≤ kc) (hs : slots ≤ ks) : OGo p e below s Q kc ks (T.setTop (mkF m pc Ls [])) :=
  OGo.fin X (fun _ => rfl) hlocks (fun fs hr => X.returnOut hx hret hd hr) hq hc hs
/-- what a body that writes nothing leaves -/
def OPure (n0 : Nat) (h0 : Heap) (r : Option Value) (v : Option Value) (h : Heap) (L : List Loc) : Prop := v = r ∧ Fr n0 L ∧ h = h0
theorem opI {n0 : Nat} {h0 : Heap} {x y : Int32} {L : List Loc} (q : x = y) (N : Fr n0 L) (E : h = h0) : OPure n0 h0 (some (.int y)) (some (.int x)) h L := ⟨by rw [q], N, E⟩
theorem opJ {n0 : Nat} {h0 : Heap} {x y : Int64} {L : List Loc} (q : x = y) (N : Fr n0 L) (E : h = h0) : OPure n0 h0 (some (.long y)) (some (.long x)) h L := ⟨by rw [q], N, E⟩
theorem own_nz1 : nar .boolean 1 = 1 := rfl
theorem own_nz0 : nar .boolean 0 = 0 := rfl
theorem own_irem {C : State} {x y : Int32} {g : JFrame} (X : Stand p l e R s m args below meth c T locs cells slots) (hx : p.tables.exec = Jvm.exec) (hg : g.method = m) {rest : List Value} (hd : decode c.code g.pc = .ok (.irem, 1)) (hs : g.stack = .int y :: .int x :: rest) (hy : y ≠ 0) :
    ∀ t, Steps p.tables e below (T.setTop { g with pc := g.pc + 1, stack := .int (x % y) :: rest }) t → Steps p.tables e below (T.setTop g) t := fun t k => iremM X hx hg hd hs hy k
/-! lcmp and the branch behind it -/
theorem own_lc (cd : ClassFile.Cond) (a b : Int64) : ifCond.holds cd (lcmpW a b) = (match cd with | .eq => decide (a = b) | .ne => !decide (a = b) | .lt => decide (a < b) | .ge => !decide (a < b) | .gt => decide (b < a) | .le => !decide (b < a)) := by
  have h1 : a = b ↔ a.toInt = b.toInt := (Int64.toInt_inj).symm
  by_cases g : a > b
  · have g' : b.toInt < a.toInt := Int64.lt_iff_toInt_lt.mp g
    have e1 : lcmpW a b = 1 := if_pos g
    have e2 : ¬ a = b := fun q => by rw [h1] at q; omega
    have e3 : ¬ a < b := fun q => by rw [Int64.lt_iff_toInt_lt] at q; omega
    have e4 : b < a := g
    rw [e1]; cases cd <;> simp [e2, e3, e4] <;> decide
  · by_cases q : a = b
    · have e1 : lcmpW a b = 0 := by rw [lcmpW, if_neg g, if_pos q]
      subst q
      have e3 : ¬ a < a := fun q => by rw [Int64.lt_iff_toInt_lt] at q; omega
      rw [e1]; cases cd <;> simp [e3] <;> decide
    · have e1 : lcmpW a b = -1 := by rw [lcmpW, if_neg g, if_neg q]
      have g1 : ¬ b < a := g
      have g2 : a < b := by rw [Int64.lt_iff_toInt_lt] at g1 ⊢; rw [h1] at q; omega
      rw [e1]; cases cd <;> simp [q, g1, g2] <;> decide
theorem lc_tlt {a b : Int64} (h : a < b) : ifCond.holds .lt (lcmpW a b) = true ∧ ifCond.holds .ge (lcmpW a b) = false ∧ ifCond.holds .gt (lcmpW b a) = true ∧ ifCond.holds .le (lcmpW b a) = false := by simp only [own_lc]; simp [h]
theorem lc_flt {a b : Int64} (h : ¬ a < b) : ifCond.holds .lt (lcmpW a b) = false ∧ ifCond.holds .ge (lcmpW a b) = true ∧ ifCond.holds .gt (lcmpW b a) = false ∧ ifCond.holds .le (lcmpW b a) = true := by simp only [own_lc]; simp [h]
theorem lc_teq {a b : Int64} (h : a = b) : ifCond.holds .eq (lcmpW a b) = true ∧ ifCond.holds .ne (lcmpW a b) = false := by simp only [own_lc]; simp [h]
theorem lc_feq {a b : Int64} (h : ¬ a = b) : ifCond.holds .eq (lcmpW a b) = false ∧ ifCond.holds .ne (lcmpW a b) = true := by simp only [own_lc]; simp [h]
theorem own_nm0 {a : Addr} : a ∉ ([] : List Addr) := fun q => nomatch q
theorem own_nm1 {a b : Addr} (h : a ≠ b) : a ∉ [b] := fun q => h (List.mem_singleton.mp q)
theorem own_nm2 {a b d : Addr} (h : a ≠ b) (h' : a ≠ d) : a ∉ [b, d] := fun q => (List.mem_cons.mp q).elim h fun q => h' (List.mem_singleton.mp q)
theorem own_nm3 {a b d f : Addr} (h : a ≠ b) (h' : a ≠ d) (h'' : a ≠ f) : a ∉ [b, d, f] := fun q => (List.mem_cons.mp q).elim h fun q => (own_nm2 h' h'') q
/-! arrays of numbers, known whole -/
/-- the array at a holds just the ints vs -/
def OAL (Z : State) (h : Heap) (a : Addr) (ty : FieldType) (vs : List Int32) : Prop := ∃ c : Cell, Arr Z h a c ty ∧ c.slots = (vs.map Value.int).toArray
/-- the array at a holds just the longs vs -/
def OAJ (Z : State) (h : Heap) (a : Addr) (vs : List Int64) : Prop := ∃ c : Cell, Arr Z h a c .long ∧ c.slots = (vs.map Value.long).toArray
/-- the place j lies inside and holds v -/
def OAt {α : Type} (vs : List α) (j : Int32) (v : α) : Prop := ¬ j < 0 ∧ vs[j.toNatClampNeg]? = some v
variable {a b : Addr} {ty : FieldType} {vs : List Int32} {us : List Int64} {ws : List Addr} {sl : Nat} {w : Value}
theorem OAL.lt (A : OAL Z h a ty vs) : a < h.size := by obtain ⟨c, A, -⟩ := A; exact A.lt
theorem OAJ.lt (A : OAJ Z h a us) : a < h.size := by obtain ⟨c, A, -⟩ := A; exact A.lt
theorem OAL.ext (A : OAL Z h a ty vs) (E : Ext h h') : OAL Z h' a ty vs := by obtain ⟨c, A, r⟩ := A; exact ⟨c, A.ext E, r⟩
theorem OAJ.ext (A : OAJ Z h a us) (E : Ext h h') : OAJ Z h' a us := by obtain ⟨c, A, r⟩ := A; exact ⟨c, A.ext E, r⟩
theorem OAL.keep (A : OAL Z h a ty vs) (K : Keep h h' ws) (q : a ∉ ws) : OAL Z h' a ty vs := by obtain ⟨c, A, r⟩ := A; exact ⟨c, ⟨K.2.1 a c A.1 q, A.2⟩, r⟩
theorem OAJ.keep (A : OAJ Z h a us) (K : Keep h h' ws) (q : a ∉ ws) : OAJ Z h' a us := by obtain ⟨c, A, r⟩ := A; exact ⟨c, ⟨K.2.1 a c A.1 q, A.2⟩, r⟩
theorem OAL.other (A : OAL Z h b ty vs) (W : Wr h h' a sl w) (q : b ≠ a) : OAL Z h' b ty vs := by obtain ⟨c, A, r⟩ := A; exact ⟨c, A.other W q, r⟩
theorem OAJ.other (A : OAJ Z h b us) (W : Wr h h' a sl w) (q : b ≠ a) : OAJ Z h' b us := by obtain ⟨c, A, r⟩ := A; exact ⟨c, A.other W q, r⟩
theorem own_slots (cl : Cell) (i : Nat) (v : Value) : (cl.setSlot i v).slots = cl.slots.setIfInBounds i v := rfl
theorem OAL.same (A : OAL Z h a ty vs) {i : Nat} {x : Int32} (W : Wr h h' a i (.int x)) : OAL Z h' a ty (vs.set i x) := by
  obtain ⟨c, A, r⟩ := A
  exact ⟨_, A.same W, by rw [own_slots, r]; simp [List.map_set]⟩
theorem OAJ.same (A : OAJ Z h a us) {i : Nat} {x : Int64} (W : Wr h h' a i (.long x)) : OAJ Z h' a (us.set i x) := by
  obtain ⟨c, A, r⟩ := A
  exact ⟨_, A.same W, by rw [own_slots, r]; simp [List.map_set]⟩
theorem OAL.new {cA : ClassId} {n : Int32} (A : Arr Z h a (newA cA ty n) ty) (q : defaultValue ty = .int 0) : OAL Z h a ty (List.replicate n.toNatClampNeg 0) := ⟨_, A, by
  show Array.replicate n.toNatClampNeg (defaultValue ty) = _
  rw [q]; simp⟩
theorem OAJ.new {cA : ClassId} {n : Int32} (A : Arr Z h a (newA cA .long n) .long) : OAJ Z h a (List.replicate n.toNatClampNeg 0) := ⟨_, A, by
  show Array.replicate n.toNatClampNeg (Value.long 0) = _
  simp⟩
theorem own_in {α : Type} {vs : List α} {f : α → Value} {j : Int32} {v : α} {cl : Cell} (r : cl.slots = (vs.map f).toArray) (q : OAt vs j v) : ¬ (j < 0 ∨ cl.slots.size ≤ j.toNatClampNeg) ∧ cl.slots[j.toNatClampNeg]? = some (f v) := by
  obtain ⟨q1, q2⟩ := q
  have hl := (List.getElem?_eq_some_iff.mp q2).1
  rw [r]
  refine ⟨fun z => z.elim q1 fun y => ?_, ?_⟩
  · simp at y; omega
  · simp [q2]
theorem OAL.baB (X : Stand p l e R s m args below meth c T locs cells slots) (hx : p.tables.exec = Jvm.exec) (hZ : Z.Warmed39 s.vm) (eT : T.heap = h) (A : OAL Z h a .byte vs) {j v : Int32} (q : OAt vs j v) {pc : Nat} {Ls : Array Slot} {rest : List Value} (hd : decode c.code pc = .ok (.baload, 1)) {t : State}
    (k : Steps p.tables e below (T.setTop (mkF m (pc + 1) Ls (.int v :: rest))) t) : Steps p.tables e below (T.setTop (mkF m pc Ls (.int j :: .ref a :: rest))) t := by
  obtain ⟨cl, A, r⟩ := A
  exact X.baloadBytes hx (j := j) (v := .int v) (by rw [eT]; exact A.1) (State.isArrayOf_alike hZ.alike A.2.1) A.2.2 (own_in r q).1 (own_in r q).2 (g := mkF m pc Ls (.int j :: .ref a :: rest)) rfl rfl hd _ k
theorem OAL.baZ (X : Stand p l e R s m args below meth c T locs cells slots) (hx : p.tables.exec = Jvm.exec) (hZ : Z.Warmed39 s.vm) (eT : T.heap = h) (A : OAL Z h a .boolean vs) {j v : Int32} (q : OAt vs j v) {pc : Nat} {Ls : Array Slot} {rest : List Value} (hd : decode c.code pc = .ok (.baload, 1)) {t : State}
    (k : Steps p.tables e below (T.setTop (mkF m (pc + 1) Ls (.int v :: rest))) t) : Steps p.tables e below (T.setTop (mkF m pc Ls (.int j :: .ref a :: rest))) t := by
  obtain ⟨cl, A, r⟩ := A
  exact X.baloadBooleans hx (j := j) (v := .int v) (by rw [eT]; exact A.1) (State.isArrayOf_alike hZ.alike A.2.1) A.2.2 (own_in r q).1 (own_in r q).2 (g := mkF m pc Ls (.int j :: .ref a :: rest)) rfl rfl hd _ k
theorem OAL.ia (X : Stand p l e R s m args below meth c T locs cells slots) (hx : p.tables.exec = Jvm.exec) (hZ : Z.Warmed39 s.vm) (eT : T.heap = h) (A : OAL Z h a .int vs) {j v : Int32} (q : OAt vs j v) {pc : Nat} {Ls : Array Slot} {rest : List Value} (hd : decode c.code pc = .ok (.iaload, 1)) {t : State}
    (k : Steps p.tables e below (T.setTop (mkF m (pc + 1) Ls (.int v :: rest))) t) : Steps p.tables e below (T.setTop (mkF m pc Ls (.int j :: .ref a :: rest))) t := by
  obtain ⟨cl, A, r⟩ := A
  exact X.iaload hx (j := j) (v := .int v) (by rw [eT]; exact A.1) (State.isArrayOf_alike hZ.alike A.2.1) A.2.2 (own_in r q).1 (own_in r q).2 (g := mkF m pc Ls (.int j :: .ref a :: rest)) rfl rfl hd _ k
theorem OAJ.la (X : Stand p l e R s m args below meth c T locs cells slots) (hx : p.tables.exec = Jvm.exec) (hZ : Z.Warmed39 s.vm) (eT : T.heap = h) (A : OAJ Z h a us) {j : Int32} {v : Int64} (q : OAt us j v) {pc : Nat} {Ls : Array Slot} {rest : List Value} (hd : decode c.code pc = .ok (.laload, 1)) {t : State}
    (k : Steps p.tables e below (T.setTop (mkF m (pc + 1) Ls (.long v :: rest))) t) : Steps p.tables e below (T.setTop (mkF m pc Ls (.int j :: .ref a :: rest))) t := by
  obtain ⟨cl, A, r⟩ := A
  exact X.laload hx (j := j) (v := .long v) (by rw [eT]; exact A.1) (State.isArrayOf_alike hZ.alike A.2.1) A.2.2 (own_in r q).1 (own_in r q).2 (g := mkF m pc Ls (.int j :: .ref a :: rest)) rfl rfl hd _ k
theorem OAL.len (X : Stand p l e R s m args below meth c T locs cells slots) (hx : p.tables.exec = Jvm.exec) (hZ : Z.Warmed39 s.vm) (eT : T.heap = h) (A : OAL Z h a ty vs) {n : Int32} (q : vs.length.toInt32 = n) {pc : Nat} {Ls : Array Slot} {rest : List Value} (hd : decode c.code pc = .ok (.arraylength, 1)) {t : State}
    (k : Steps p.tables e below (T.setTop (mkF m (pc + 1) Ls (.int n :: rest))) t) : Steps p.tables e below (T.setTop (mkF m pc Ls (.ref a :: rest))) t := by
  obtain ⟨cl, A, r⟩ := A
  have z : cl.slots.size = vs.length := by rw [r]; simp
  exact X.arraylength hx (by rw [eT]; exact A.1) (State.isArrayOf_alike hZ.alike A.2.1) (g := mkF m pc Ls (.ref a :: rest)) rfl rfl hd _ (by rw [z, q]; exact k)
theorem OAJ.len (X : Stand p l e R s m args below meth c T locs cells slots) (hx : p.tables.exec = Jvm.exec) (hZ : Z.Warmed39 s.vm) (eT : T.heap = h) (A : OAJ Z h a us) {n : Int32} (q : us.length.toInt32 = n) {pc : Nat} {Ls : Array Slot} {rest : List Value} (hd : decode c.code pc = .ok (.arraylength, 1)) {t : State}
    (k : Steps p.tables e below (T.setTop (mkF m (pc + 1) Ls (.int n :: rest))) t) : Steps p.tables e below (T.setTop (mkF m pc Ls (.ref a :: rest))) t := by
  obtain ⟨cl, A, r⟩ := A
  have z : cl.slots.size = us.length := by rw [r]; simp
  exact X.arraylength hx (by rw [eT]; exact A.1) (State.isArrayOf_alike hZ.alike A.2.1) (g := mkF m pc Ls (.ref a :: rest)) rfl rfl hd _ (by rw [z, q]; exact k)
theorem own_into {α : Type} {vs : List α} {f : α → Value} {j : Int32} {cl : Cell} (r : cl.slots = (vs.map f).toArray) (q1 : ¬ j < 0) (q2 : j.toNatClampNeg < vs.length) : ¬ (j < 0 ∨ cl.slots.size ≤ j.toNatClampNeg) := by
  rw [r]
  exact fun z => z.elim q1 fun y => by simp at y; omega
theorem OAL.stB (X : Stand p l e R s m args below meth c T locs cells slots) (hx : p.tables.exec = Jvm.exec) (hZ : Z.Warmed39 s.vm) (eT : T.heap = h) (A : OAL Z h a .byte vs) {j x : Int32} (q1 : ¬ j < 0) (q2 : j.toNatClampNeg < vs.length) {pc : Nat} {Ls : Array Slot} {rest : List Value} (hd : decode c.code pc = .ok (.bastore, 1)) :
    ∃ T' h', Stand p l e R s m args below meth c T' (locs ++ [⟨a, j.toNatClampNeg⟩]) cells slots ∧ T'.heap = h' ∧ Wr h h' a j.toNatClampNeg (.int (nar .byte x)) ∧ OAL Z h' a .byte (vs.set j.toNatClampNeg (nar .byte x)) ∧ ∀ t, Steps p.tables e below (T'.setTop (mkF m (pc + 1) Ls rest)) t → Steps p.tables e below (T.setTop (mkF m pc Ls (.int x :: .int j :: .ref a :: rest))) t := by
  obtain ⟨cl, A', r⟩ := A
  obtain ⟨T', h', X', e', W', st⟩ := Jvm.RoadKit.stB X hx hZ eT A' (j := j) (x := x) (own_into r q1 q2) (g := mkF m pc Ls (.int x :: .int j :: .ref a :: rest)) rfl rfl hd
  exact ⟨T', h', X', e', W', OAL.same ⟨cl, A', r⟩ W', st⟩
theorem OAL.stZ (X : Stand p l e R s m args below meth c T locs cells slots) (hx : p.tables.exec = Jvm.exec) (hZ : Z.Warmed39 s.vm) (eT : T.heap = h) (A : OAL Z h a .boolean vs) {j x : Int32} (q1 : ¬ j < 0) (q2 : j.toNatClampNeg < vs.length) {pc : Nat} {Ls : Array Slot} {rest : List Value} (hd : decode c.code pc = .ok (.bastore, 1)) :
    ∃ T' h', Stand p l e R s m args below meth c T' (locs ++ [⟨a, j.toNatClampNeg⟩]) cells slots ∧ T'.heap = h' ∧ Wr h h' a j.toNatClampNeg (.int (nar .boolean x)) ∧ OAL Z h' a .boolean (vs.set j.toNatClampNeg (nar .boolean x)) ∧ ∀ t, Steps p.tables e below (T'.setTop (mkF m (pc + 1) Ls rest)) t → Steps p.tables e below (T.setTop (mkF m pc Ls (.int x :: .int j :: .ref a :: rest))) t := by
  obtain ⟨cl, A', r⟩ := A
  obtain ⟨T', h', X', e', W', st⟩ := Jvm.RoadKit.stZ X hx hZ eT A' (j := j) (x := x) (own_into r q1 q2) (g := mkF m pc Ls (.int x :: .int j :: .ref a :: rest)) rfl rfl hd
  exact ⟨T', h', X', e', W', OAL.same ⟨cl, A', r⟩ W', st⟩
theorem OAL.stI (X : Stand p l e R s m args below meth c T locs cells slots) (hx : p.tables.exec = Jvm.exec) (hZ : Z.Warmed39 s.vm) (eT : T.heap = h) (A : OAL Z h a .int vs) {j x : Int32} (q1 : ¬ j < 0) (q2 : j.toNatClampNeg < vs.length) {pc : Nat} {Ls : Array Slot} {rest : List Value} (hd : decode c.code pc = .ok (.iastore, 1)) :
    ∃ T' h', Stand p l e R s m args below meth c T' (locs ++ [⟨a, j.toNatClampNeg⟩]) cells slots ∧ T'.heap = h' ∧ Wr h h' a j.toNatClampNeg (.int x) ∧ OAL Z h' a .int (vs.set j.toNatClampNeg x) ∧ ∀ t, Steps p.tables e below (T'.setTop (mkF m (pc + 1) Ls rest)) t → Steps p.tables e below (T.setTop (mkF m pc Ls (.int x :: .int j :: .ref a :: rest))) t := by
  obtain ⟨cl, A', r⟩ := A
  obtain ⟨T', h', X', e', W', st⟩ := Jvm.RoadKit.stI X hx hZ eT A' (j := j) (x := x) (own_into r q1 q2) (g := mkF m pc Ls (.int x :: .int j :: .ref a :: rest)) rfl rfl hd
  exact ⟨T', h', X', e', W', OAL.same ⟨cl, A', r⟩ W', st⟩
theorem OAJ.stJ (X : Stand p l e R s m args below meth c T locs cells slots) (hx : p.tables.exec = Jvm.exec) (hZ : Z.Warmed39 s.vm) (eT : T.heap = h) (A : OAJ Z h a us) {j : Int32} {x : Int64} (q1 : ¬ j < 0) (q2 : j.toNatClampNeg < us.length) {pc : Nat} {Ls : Array Slot} {rest : List Value} (hd : decode c.code pc = .ok (.lastore, 1)) :
    ∃ T' h', Stand p l e R s m args below meth c T' (locs ++ [⟨a, j.toNatClampNeg⟩]) cells slots ∧ T'.heap = h' ∧ Wr h h' a j.toNatClampNeg (.long x) ∧ OAJ Z h' a (us.set j.toNatClampNeg x) ∧ ∀ t, Steps p.tables e below (T'.setTop (mkF m (pc + 1) Ls rest)) t → Steps p.tables e below (T.setTop (mkF m pc Ls (.long x :: .int j :: .ref a :: rest))) t := by
  obtain ⟨cl, A', r⟩ := A
  obtain ⟨T', h', X', e', W', st⟩ := Jvm.RoadKit.stJ X hx hZ eT A' (j := j) (x := x) (own_into r q1 q2) (g := mkF m pc Ls (.long x :: .int j :: .ref a :: rest)) rfl rfl hd
  exact ⟨T', h', X', e', W', OAJ.same ⟨cl, A', r⟩ W', st⟩
end Own
end Jvm.RoadKit
namespace Jvm.Pilot.@@N@@
open Jvm Jvm.ClassFile Sem Op Lib Jvm.Free Jvm.Stand Jvm.LawKit Jvm.RoadKit Bundle Jvm.Pilot.@@N@@.Jvm.D
def own_mic (t : Int32) : Int32 := if t < 16 ∨ 47 < t then 0 else 1
def own_ref (t : Int32) : Int32 := if (t - 16) &&& (-32) = 0 then 1 else 0
theorem own_bits (u : BitVec 32) : u &&& 0xFFFFFFE0#32 = 0#32 ↔ u.toNat < 32 := by
  constructor
  · intro h
    have e : u = u &&& 31#32 := by
      have k : u = (u &&& 0xFFFFFFE0#32) ||| (u &&& 31#32) := by
        rw [← BitVec.and_or_distrib_left]
        have : (0xFFFFFFE0#32 ||| 31#32) = BitVec.allOnes 32 := by decide
        rw [this, BitVec.and_allOnes]
      rw [h, BitVec.zero_or] at k; exact k
    have e2 : u.toNat = u.toNat &&& 31 := by
      have := congrArg BitVec.toNat e
      rw [BitVec.toNat_and] at this; exact this
    have : u.toNat &&& 31 ≤ 31 := Nat.and_le_right
    omega
  · intro h
    apply BitVec.eq_of_toNat_eq
    rw [BitVec.toNat_and]
    have : u.toNat = u.toNat % 32 := by omega
    rw [this]
    generalize u.toNat = n
    have hn : n % 32 < 32 := Nat.mod_lt _ (by decide)
    generalize n % 32 = k at hn
    have : ∀ k : Fin 32, (k.val &&& (0xFFFFFFE0#32).toNat) = (0#32).toNat := by decide
    exact this ⟨k, hn⟩
theorem own_mr (t : Int32) : own_mic t = own_ref t := by
  have h1 : ((t - 16) &&& (-32) = 0) ↔ (t - 16).toBitVec &&& 0xFFFFFFE0#32 = 0#32 := by
    rw [← Int32.toBitVec_inj]
    have e : ((t - 16) &&& (-32)).toBitVec = (t - 16).toBitVec &&& 0xFFFFFFE0#32 := rfl
    rw [e]; rfl
  have h2 : ((t - 16).toBitVec.toNat < 32) ↔ (16 ≤ t.toInt ∧ t.toInt ≤ 47) := by
    have e : (t - 16).toBitVec = t.toBitVec - 16#32 := rfl
    have e2 : t.toInt = t.toBitVec.toInt := rfl
    rw [e, e2, BitVec.toNat_sub, BitVec.toInt_eq_toNat_cond]
    have := t.toBitVec.isLt
    have k : (16#32).toNat = 16 := rfl
    rw [k]
    generalize t.toBitVec.toNat = n at *
    split <;> omega
  have h3 : ((t - 16) &&& (-32) = 0) ↔ ¬ (t < 16 ∨ 47 < t) := by
    rw [h1, own_bits, h2, Int32.lt_iff_toInt_lt, Int32.lt_iff_toInt_lt]
    have k1 : (16 : Int32).toInt = 16 := by decide
    have k2 : (47 : Int32).toInt = 47 := by decide
    rw [k1, k2]; omega
  unfold own_mic own_ref
  by_cases q : t < 16 ∨ 47 < t
  · rw [if_pos q, if_neg (fun z => h3.mp z q)]
  · rw [if_neg q, if_pos (h3.mpr q)]
theorem d1_0 : decode prog_64_method_3_code 0 = .ok (.iload_n 0, 1) := by decide +kernel
theorem d1_1 : decode prog_64_method_3_code 1 = .ok (.bipush 16, 2) := by decide +kernel
theorem d1_3 : decode prog_64_method_3_code 3 = .ok (.if_icmp .lt 13, 3) := by decide +kernel
theorem d1_6 : decode prog_64_method_3_code 6 = .ok (.iload_n 0, 1) := by decide +kernel
theorem d1_7 : decode prog_64_method_3_code 7 = .ok (.bipush 47, 2) := by decide +kernel
theorem d1_9 : decode prog_64_method_3_code 9 = .ok (.if_icmp .gt 7, 3) := by decide +kernel
theorem d1_12 : decode prog_64_method_3_code 12 = .ok (.iconst 1, 1) := by decide +kernel
theorem d1_13 : decode prog_64_method_3_code 13 = .ok (.goto 4, 3) := by decide +kernel
theorem d1_16 : decode prog_64_method_3_code 16 = .ok (.iconst 0, 1) := by decide +kernel
theorem d1_17 : decode prog_64_method_3_code 17 = .ok (.ireturn, 1) := by decide +kernel
theorem own_pn0 : plainName "com/example/weaverbird/weaverbird/model/Frame" = true := by first | (simp [plainName, overriddenIn]; done) | decide +kernel
theorem ef_own_m1 (m : MethodId) (x0 : Int32) : entryFrame m #[(.int x0)] 1 = mkF m 0 #[.val (.int x0)] [] := by first | (simp [entryFrame, mkF, argsToLocals, Value.category]; done) | rfl
set_option maxRecDepth 65536 in
set_option maxHeartbeats 40000000 in
theorem own_m1 (l : Launch) (Z : State) (a0 : Array Value) (hw : ∀ d ∈ tables_1, d.before a0 Z = true) (ws : List Jvm.Cond) (vt : Int32) (h0 : Heap) (n0 : Nat) (Z0 : n0 ≤ h0.size)  :
    MetFree l (⟨"com/example/weaverbird/weaverbird/model/Frame", "hasMic", "(I)Z"⟩ : MethodName) (head1 (Jvm.Cond.code (⟨"com/example/weaverbird/weaverbird/model/Frame", "hasMic", "(I)Z"⟩ : MethodName) prog_64_method_3_code 1 (some .boolean) :: ws) ({ frames := 0, cells := 0, slots := 0, locals := 0 } : Room)) (fun a U => a = #[(.int vt)] ∧ Z.Warmed39 U.vm ∧ U.heap = h0) (fun _ _ _ _ _ => True) (fun _ U o U' => ∃ v L, o = .returned v ∧ (OPure n0 h0 (some (.int (own_mic vt)))) v U'.heap L ∧ FrameEnd U o U' L ({ frames := 0, cells := 0, slots := 0, locals := 0 } : Room).cells ({ frames := 0, cells := 0, slots := 0, locals := 0 } : Room).slots) := by
  refine MetFree.of_bodySF (plainFor_of_name own_pn0) hisR ?_
  intro p e s m args below meth c s₁ Bd hml0 hP hK
  obtain ⟨rfl, hZ, hh⟩ := hP
  have hx := Bd.exec
  have hby := Bd.bytes
  have hret := Bd.returns
  have hlk : meth.locks = false := Bd.notSynchronized
  have hml : c.maxLocals = 1 := hml0
  have hown : s.vm.findClass "com/example/weaverbird/weaverbird/model/Frame" = some m.cls := findClass_of_methodNamed Bd.named
  have hnm := (name_of_methodNamed Bd.named Bd.method).1
  have X0 : Stand p l e ({ frames := 0, cells := 0, slots := 0, locals := 0 } : Room) s m #[(.int vt)] below meth c s₁ [] 0 0 := Stand.of_body Bd
  have e0 : s₁.heap = h0 := by rw [← hh, Bd.state]; rfl
  have N0 := Fr.nil n0
  have pre0 : ∀ t, Steps p.tables e below (s₁.setTop (mkF m 0 #[.val (.int vt)] [])) t → Steps p.tables e below (s₁.setTop (entryFrame m #[(.int vt)] 1)) t := fun t k => castTop (ef_own_m1 m vt) k
  show OGo p e below s (OPure n0 h0 (some (.int (own_mic vt)))) ({ frames := 0, cells := 0, slots := 0, locals := 0 } : Room).cells ({ frames := 0, cells := 0, slots := 0, locals := 0 } : Room).slots (s₁.setTop (entryFrame m #[(.int vt)] 1))
  refine OGo.on pre0 ?_
  show OGo p e below s _ _ _ (s₁.setTop (mkF m 0 #[.val (.int vt)] []))
  refine OGo.on (fun t k => XS.iloadN X0.here hx rfl (hb hby d1_0) rfl k) ?_
  show OGo p e below s _ _ _ (s₁.setTop (mkF m 1 #[.val (.int vt)] [(.int vt)]))
  refine OGo.on (fun t k => XS.bipush X0.here hx rfl (hb hby d1_1) k) ?_
  show OGo p e below s _ _ _ (s₁.setTop (mkF m 3 #[.val (.int vt)] [(.int (16 : Int32)), (.int vt)]))
  by_cases hc1 : vt < (16 : Int32)
  · refine OGo.on (fun t k => XS.icmpYes X0.here hx rfl (pc0 := 3) (pc' := 16) rfl (hb hby d1_3) rfl (tlt hc1).1 (by decide) (by decide) k) ?_
    show OGo p e below s _ _ _ (s₁.setTop (mkF m 16 #[.val (.int vt)] []))
    refine OGo.on (fun t k => XS.iconst X0.here hx rfl (hb hby d1_16) k) ?_
    show OGo p e below s _ _ _ (s₁.setTop (mkF m 17 #[.val (.int vt)] [(.int (0 : Int32))]))
    exact OGo.retN X0 hx (t := .boolean) hret hlk (by simp) (hb hby d1_17) (opI (by rw [own_nz0]; simp [own_mic, hc1]) N0 e0) (by decide) (by decide)
  · refine OGo.on (fun t k => XS.icmpNo X0.here hx rfl (hb hby d1_3) rfl (flt hc1).1 k) ?_
    show OGo p e below s _ _ _ (s₁.setTop (mkF m 6 #[.val (.int vt)] []))
    refine OGo.on (fun t k => XS.iloadN X0.here hx rfl (hb hby d1_6) rfl k) ?_
    show OGo p e below s _ _ _ (s₁.setTop (mkF m 7 #[.val (.int vt)] [(.int vt)]))
    refine OGo.on (fun t k => XS.bipush X0.here hx rfl (hb hby d1_7) k) ?_
    show OGo p e below s _ _ _ (s₁.setTop (mkF m 9 #[.val (.int vt)] [(.int (47 : Int32)), (.int vt)]))
    by_cases hc2 : (47 : Int32) < vt
    · refine OGo.on (fun t k => XS.icmpYes X0.here hx rfl (pc0 := 9) (pc' := 16) rfl (hb hby d1_9) rfl (tlt hc2).2.2.1 (by decide) (by decide) k) ?_
      show OGo p e below s _ _ _ (s₁.setTop (mkF m 16 #[.val (.int vt)] []))
      refine OGo.on (fun t k => XS.iconst X0.here hx rfl (hb hby d1_16) k) ?_
      show OGo p e below s _ _ _ (s₁.setTop (mkF m 17 #[.val (.int vt)] [(.int (0 : Int32))]))
      exact OGo.retN X0 hx (t := .boolean) hret hlk (by simp) (hb hby d1_17) (opI (by rw [own_nz0]; simp [own_mic, hc1, hc2]) N0 e0) (by decide) (by decide)
    · refine OGo.on (fun t k => XS.icmpNo X0.here hx rfl (hb hby d1_9) rfl (flt hc2).2.2.1 k) ?_
      show OGo p e below s _ _ _ (s₁.setTop (mkF m 12 #[.val (.int vt)] []))
      refine OGo.on (fun t k => XS.iconst X0.here hx rfl (hb hby d1_12) k) ?_
      show OGo p e below s _ _ _ (s₁.setTop (mkF m 13 #[.val (.int vt)] [(.int (1 : Int32))]))
      refine OGo.on (fun t k => XS.goto X0.here hx rfl (pc0 := 13) (pc' := 17) rfl (hb hby d1_13) (by decide) (by decide) k) ?_
      show OGo p e below s _ _ _ (s₁.setTop (mkF m 17 #[.val (.int vt)] [(.int (1 : Int32))]))
      exact OGo.retN X0 hx (t := .boolean) hret hlk (by simp) (hb hby d1_17) (opI (by rw [own_nz1]; simp [own_mic, hc1, hc2]) N0 e0) (by decide) (by decide)
theorem d2_0 : decode method_2_code 0 = .ok (.iload_n 0, 1) := by decide +kernel
theorem d2_1 : decode method_2_code 1 = .ok (.bipush 16, 2) := by decide +kernel
theorem d2_3 : decode method_2_code 3 = .ok (.isub, 1) := by decide +kernel
theorem d2_4 : decode method_2_code 4 = .ok (.bipush (-32), 2) := by decide +kernel
theorem d2_6 : decode method_2_code 6 = .ok (.iand, 1) := by decide +kernel
theorem d2_7 : decode method_2_code 7 = .ok (.ifCond .ne 7, 3) := by decide +kernel
theorem d2_10 : decode method_2_code 10 = .ok (.iconst 1, 1) := by decide +kernel
theorem d2_11 : decode method_2_code 11 = .ok (.goto 4, 3) := by decide +kernel
theorem d2_14 : decode method_2_code 14 = .ok (.iconst 0, 1) := by decide +kernel
theorem d2_15 : decode method_2_code 15 = .ok (.ireturn, 1) := by decide +kernel
theorem own_pn1 : plainName "com/example/weaverbird/weaverbird/model/FrameHasMicPinLaw" = true := by first | (simp [plainName, overriddenIn]; done) | decide +kernel
theorem ef_own_m2 (m : MethodId) (x0 : Int32) : entryFrame m #[(.int x0)] 1 = mkF m 0 #[.val (.int x0)] [] := by first | (simp [entryFrame, mkF, argsToLocals, Value.category]; done) | rfl
set_option maxRecDepth 65536 in
set_option maxHeartbeats 40000000 in
theorem own_m2 (l : Launch) (Z : State) (a0 : Array Value) (hw : ∀ d ∈ tables_1, d.before a0 Z = true) (ws : List Jvm.Cond) (vt : Int32) (h0 : Heap) (n0 : Nat) (Z0 : n0 ≤ h0.size)  :
    MetFree l (⟨"com/example/weaverbird/weaverbird/model/FrameHasMicPinLaw", "reference", "(I)Z"⟩ : MethodName) (head1 (Jvm.Cond.code (⟨"com/example/weaverbird/weaverbird/model/FrameHasMicPinLaw", "reference", "(I)Z"⟩ : MethodName) method_2_code 1 (some .boolean) :: ws) ({ frames := 0, cells := 0, slots := 0, locals := 0 } : Room)) (fun a U => a = #[(.int vt)] ∧ Z.Warmed39 U.vm ∧ U.heap = h0) (fun _ _ _ _ _ => True) (fun _ U o U' => ∃ v L, o = .returned v ∧ (OPure n0 h0 (some (.int (own_ref vt)))) v U'.heap L ∧ FrameEnd U o U' L ({ frames := 0, cells := 0, slots := 0, locals := 0 } : Room).cells ({ frames := 0, cells := 0, slots := 0, locals := 0 } : Room).slots) := by
  refine MetFree.of_bodySF (plainFor_of_name own_pn1) hisR ?_
  intro p e s m args below meth c s₁ Bd hml0 hP hK
  obtain ⟨rfl, hZ, hh⟩ := hP
  have hx := Bd.exec
  have hby := Bd.bytes
  have hret := Bd.returns
  have hlk : meth.locks = false := Bd.notSynchronized
  have hml : c.maxLocals = 1 := hml0
  have hown : s.vm.findClass "com/example/weaverbird/weaverbird/model/FrameHasMicPinLaw" = some m.cls := findClass_of_methodNamed Bd.named
  have hnm := (name_of_methodNamed Bd.named Bd.method).1
  have X0 : Stand p l e ({ frames := 0, cells := 0, slots := 0, locals := 0 } : Room) s m #[(.int vt)] below meth c s₁ [] 0 0 := Stand.of_body Bd
  have e0 : s₁.heap = h0 := by rw [← hh, Bd.state]; rfl
  have N0 := Fr.nil n0
  have pre0 : ∀ t, Steps p.tables e below (s₁.setTop (mkF m 0 #[.val (.int vt)] [])) t → Steps p.tables e below (s₁.setTop (entryFrame m #[(.int vt)] 1)) t := fun t k => castTop (ef_own_m2 m vt) k
  show OGo p e below s (OPure n0 h0 (some (.int (own_ref vt)))) ({ frames := 0, cells := 0, slots := 0, locals := 0 } : Room).cells ({ frames := 0, cells := 0, slots := 0, locals := 0 } : Room).slots (s₁.setTop (entryFrame m #[(.int vt)] 1))
  refine OGo.on pre0 ?_
  show OGo p e below s _ _ _ (s₁.setTop (mkF m 0 #[.val (.int vt)] []))
  refine OGo.on (fun t k => XS.iloadN X0.here hx rfl (hb hby d2_0) rfl k) ?_
  show OGo p e below s _ _ _ (s₁.setTop (mkF m 1 #[.val (.int vt)] [(.int vt)]))
  refine OGo.on (fun t k => XS.bipush X0.here hx rfl (hb hby d2_1) k) ?_
  show OGo p e below s _ _ _ (s₁.setTop (mkF m 3 #[.val (.int vt)] [(.int (16 : Int32)), (.int vt)]))
  refine OGo.on (fun t k => XS.isub X0.here hx rfl (hb hby d2_3) rfl k) ?_
  show OGo p e below s _ _ _ (s₁.setTop (mkF m 4 #[.val (.int vt)] [(.int (vt - (16 : Int32)))]))
  refine OGo.on (fun t k => XS.bipush X0.here hx rfl (hb hby d2_4) k) ?_
  show OGo p e below s _ _ _ (s₁.setTop (mkF m 6 #[.val (.int vt)] [(.int (-32 : Int32)), (.int (vt - (16 : Int32)))]))
  refine OGo.on (fun t k => XS.iand X0.here hx rfl (hb hby d2_6) rfl k) ?_
  show OGo p e below s _ _ _ (s₁.setTop (mkF m 7 #[.val (.int vt)] [(.int ((vt - (16 : Int32)) &&& (-32 : Int32)))]))
  by_cases hc3 : ((vt - (16 : Int32)) &&& (-32 : Int32)) = (0 : Int32)
  · refine OGo.on (fun t k => XS.ifNo X0.here hx rfl (hb hby d2_7) rfl ((if0 _ _).trans (teq hc3).2) k) ?_
    show OGo p e below s _ _ _ (s₁.setTop (mkF m 10 #[.val (.int vt)] []))
    refine OGo.on (fun t k => XS.iconst X0.here hx rfl (hb hby d2_10) k) ?_
    show OGo p e below s _ _ _ (s₁.setTop (mkF m 11 #[.val (.int vt)] [(.int (1 : Int32))]))
    refine OGo.on (fun t k => XS.goto X0.here hx rfl (pc0 := 11) (pc' := 15) rfl (hb hby d2_11) (by decide) (by decide) k) ?_
    show OGo p e below s _ _ _ (s₁.setTop (mkF m 15 #[.val (.int vt)] [(.int (1 : Int32))]))
    exact OGo.retN X0 hx (t := .boolean) hret hlk (by simp) (hb hby d2_15) (opI (by rw [own_nz1]; simp [own_ref, hc3]) N0 e0) (by decide) (by decide)
  · refine OGo.on (fun t k => XS.ifYes X0.here hx rfl (pc0 := 7) (pc' := 14) rfl (hb hby d2_7) rfl ((if0 _ _).trans (feq hc3).2) (by decide) (by decide) k) ?_
    show OGo p e below s _ _ _ (s₁.setTop (mkF m 14 #[.val (.int vt)] []))
    refine OGo.on (fun t k => XS.iconst X0.here hx rfl (hb hby d2_14) k) ?_
    show OGo p e below s _ _ _ (s₁.setTop (mkF m 15 #[.val (.int vt)] [(.int (0 : Int32))]))
    exact OGo.retN X0 hx (t := .boolean) hret hlk (by simp) (hb hby d2_15) (opI (by rw [own_nz0]; simp [own_ref, hc3]) N0 e0) (by decide) (by decide)
theorem own_pd0 : parseMethodDescriptor "(I)Z" = some ⟨[.int], some .boolean⟩ := by decide +kernel
theorem ef_own_law (m : MethodId) (x0 : Int32) (x1 : Int32) : entryFrame m #[(.int x0), (.int x1)] maxLocals = mkF m 0 #[.val (.int x0), .val (.int x1), .unset] [] := by first | (simp [entryFrame, mkF, argsToLocals, Value.category, maxLocals]; done) | rfl
set_option maxRecDepth 65536 in
set_option maxHeartbeats 40000000 in
theorem own_law (l : Launch) (Z : State) (a0 : Array Value) (hw : ∀ d ∈ tables_1, d.before a0 Z = true) (ws : List Jvm.Cond) (vt vu : Int32) (h0 : Heap) (n0 : Nat) (Z0 : n0 ≤ h0.size)  :
    MetFree l x (head1 (Jvm.Cond.code x code maxLocals ret :: ws) room_1) (fun a U => a = #[(.int vt), (.int vu)] ∧ Z.Warmed39 U.vm ∧ U.heap = h0) (fun _ _ _ _ _ => True) (fun _ U o U' => ∃ v L, o = .returned v ∧ (fun v h L => v = some (.int 1) ∧ Fr n0 L) v U'.heap L ∧ FrameEnd U o U' L 0 0) := by
  refine MetFree.of_bodySF (plainFor_of_name own_pn1) hisR ?_
  intro p e s m args below meth c s₁ Bd hml0 hP hK
  obtain ⟨rfl, hZ, hh⟩ := hP
  have hx := Bd.exec
  have hby := Bd.bytes
  have hret := Bd.returns
  have hlk : meth.locks = false := Bd.notSynchronized
  have hml : c.maxLocals = 3 := hml0
  have hown : s.vm.findClass "com/example/weaverbird/weaverbird/model/FrameHasMicPinLaw" = some m.cls := findClass_of_methodNamed Bd.named
  have hnm := (name_of_methodNamed Bd.named Bd.method).1
  have X0 : Stand p l e room_1 s m #[(.int vt), (.int vu)] below meth c s₁ [] 0 0 := Stand.of_body Bd
  have e0 : s₁.heap = h0 := by rw [← hh, Bd.state]; rfl
  have N0 := Fr.nil n0
  have pre0 : ∀ t, Steps p.tables e below (s₁.setTop (mkF m 0 #[.val (.int vt), .val (.int vu), .unset] [])) t → Steps p.tables e below (s₁.setTop (entryFrame m #[(.int vt), (.int vu)] maxLocals)) t := fun t k => castTop (ef_own_law m vt vu) k
  show OGo p e below s (fun v h L => v = some (.int 1) ∧ Fr n0 L) 0 0 (s₁.setTop (entryFrame m #[(.int vt), (.int vu)] maxLocals))
  refine OGo.on pre0 ?_
  show OGo p e below s _ _ _ (s₁.setTop (mkF m 0 #[.val (.int vt), .val (.int vu), .unset] []))
  refine OGo.on (fun t k => XS.iloadN X0.here hx rfl (hb hby at_0) rfl k) ?_
  show OGo p e below s _ _ _ (s₁.setTop (mkF m 1 #[.val (.int vt), .val (.int vu), .unset] [(.int vt)]))
  obtain ⟨_, _, ⟨T4, L4, k4, n4⟩, -, X4, ⟨Lc4, hQ4, l4, y4, z4⟩, st4⟩ := Jvm.LawKit.callS X0 hx (y := (⟨"com/example/weaverbird/weaverbird/model/Frame", "hasMic", "(I)Z"⟩ : MethodName)) hown (mvT hZ (hw _ (List.mem_of_getElem? (i := 0) rfl))) (mvT hZ (hw _ (List.mem_of_getElem? (i := 1) rfl))) (mvT hZ (hw _ (List.mem_of_getElem? (i := 2) rfl))) (mvT hZ (hw _ (List.mem_of_getElem? (i := 3) rfl))) (by decide) (backOf (W := 0) (own_m1 l Z a0 hw [] vt h0 n0 (by assumption)) hZ (hw _ (List.mem_of_getElem? (i := 3) rfl)) (hw _ (List.mem_of_getElem? (i := 2) rfl)) (by decide) (by decide)) (g := (mkF m 1 #[.val (.int vt), .val (.int vu), .unset] [(.int vt)])) rfl (by rw [hml]; rfl) (argsL := [(.int vt)]) (rest := []) (lenOf own_pd0 rfl) rfl (by show 2 * 0 + _ ≤ _; exact Nat.le_of_eq rfl) (hb hby at_1) (fun _ _ => ⟨rfl, e0, (by decide : 0 + 0 ≤ _), (by decide : 0 + 0 ≤ _)⟩)
  dsimp only [Pt.U, Pt.locs, Pt.cells, Pt.slots] at X4 l4 y4 z4 st4 hQ4
  subst l4 y4 z4
  obtain ⟨rfl, N4q, e4⟩ := hQ4
  have N4 := Fr.app N0 N4q
  refine OGo.on st4 ?_
  show OGo p e below s _ _ _ (T4.setTop (mkF m 4 #[.val (.int vt), .val (.int vu), .unset] [(.int (own_mic vt))]))
  refine OGo.on (fun t k => XS.iloadN X4.here hx rfl (hb hby at_4) rfl k) ?_
  show OGo p e below s _ _ _ (T4.setTop (mkF m 5 #[.val (.int vt), .val (.int vu), .unset] [(.int vt), (.int (own_mic vt))]))
  obtain ⟨_, _, ⟨T5, L5, k5, n5⟩, -, X5, ⟨Lc5, hQ5, l5, y5, z5⟩, st5⟩ := Jvm.LawKit.callS X4 hx (y := (⟨"com/example/weaverbird/weaverbird/model/FrameHasMicPinLaw", "reference", "(I)Z"⟩ : MethodName)) hown (mvT hZ (hw _ (List.mem_of_getElem? (i := 4) rfl))) (mvT hZ (hw _ (List.mem_of_getElem? (i := 5) rfl))) (mvT hZ (hw _ (List.mem_of_getElem? (i := 6) rfl))) (mvT hZ (hw _ (List.mem_of_getElem? (i := 7) rfl))) (by decide) (backOf (W := 1) (own_m2 l Z a0 hw [] vt h0 n0 (by assumption)) hZ (hw _ (List.mem_of_getElem? (i := 7) rfl)) (hw _ (List.mem_of_getElem? (i := 6) rfl)) (by decide) (by decide)) (g := (mkF m 5 #[.val (.int vt), .val (.int vu), .unset] [(.int vt), (.int (own_mic vt))])) rfl (by rw [hml]; rfl) (argsL := [(.int vt)]) (rest := [(.int (own_mic vt))]) (lenOf own_pd0 rfl) rfl (by show 2 * 0 + _ ≤ _; exact Nat.le_of_eq rfl) (hb hby at_5) (fun _ _ => ⟨rfl, e4, (by decide : 0 + 0 ≤ _), (by decide : 0 + 0 ≤ _)⟩)
  dsimp only [Pt.U, Pt.locs, Pt.cells, Pt.slots] at X5 l5 y5 z5 st5 hQ5
  subst l5 y5 z5
  obtain ⟨rfl, N5q, e5⟩ := hQ5
  have N5 := Fr.app N4 N5q
  refine OGo.on st5 ?_
  show OGo p e below s _ _ _ (T5.setTop (mkF m 8 #[.val (.int vt), .val (.int vu), .unset] [(.int (own_ref vt)), (.int (own_mic vt))]))
  refine OGo.on (fun t k => XS.icmpNo X5.here hx rfl (hb hby at_8) rfl (teq (own_mr vt)).2 k) ?_
  show OGo p e below s _ _ _ (T5.setTop (mkF m 11 #[.val (.int vt), .val (.int vu), .unset] []))
  refine OGo.on (fun t k => XS.iconst X5.here hx rfl (hb hby at_11) k) ?_
  show OGo p e below s _ _ _ (T5.setTop (mkF m 12 #[.val (.int vt), .val (.int vu), .unset] [(.int (1 : Int32))]))
  refine OGo.on (fun t k => XS.goto X5.here hx rfl (pc0 := 12) (pc' := 16) rfl (hb hby at_12) (by decide) (by decide) k) ?_
  show OGo p e below s _ _ _ (T5.setTop (mkF m 16 #[.val (.int vt), .val (.int vu), .unset] [(.int (1 : Int32))]))
  refine OGo.on (fun t k => XS.istoreN X5.here hx rfl (hb hby at_16) rfl (l' := #[.val (.int vt), .val (.int vu), .val (.int (1 : Int32))]) rfl k) ?_
  show OGo p e below s _ _ _ (T5.setTop (mkF m 17 #[.val (.int vt), .val (.int vu), .val (.int (1 : Int32))] []))
  refine OGo.on (fun t k => XS.iloadN X5.here hx rfl (hb hby at_17) rfl k) ?_
  show OGo p e below s _ _ _ (T5.setTop (mkF m 18 #[.val (.int vt), .val (.int vu), .val (.int (1 : Int32))] [(.int (1 : Int32))]))
  refine OGo.on (fun t k => XS.ifNo X5.here hx rfl (hb hby at_18) rfl ((if0 _ _).trans (feq (by decide)).1) k) ?_
  show OGo p e below s _ _ _ (T5.setTop (mkF m 21 #[.val (.int vt), .val (.int vu), .val (.int (1 : Int32))] []))
  refine OGo.on (fun t k => XS.iloadN X5.here hx rfl (hb hby at_21) rfl k) ?_
  show OGo p e below s _ _ _ (T5.setTop (mkF m 22 #[.val (.int vt), .val (.int vu), .val (.int (1 : Int32))] [(.int vu)]))
  obtain ⟨_, _, ⟨T6, L6, k6, n6⟩, -, X6, ⟨Lc6, hQ6, l6, y6, z6⟩, st6⟩ := Jvm.LawKit.callS X5 hx (y := (⟨"com/example/weaverbird/weaverbird/model/Frame", "hasMic", "(I)Z"⟩ : MethodName)) hown (mvT hZ (hw _ (List.mem_of_getElem? (i := 0) rfl))) (mvT hZ (hw _ (List.mem_of_getElem? (i := 1) rfl))) (mvT hZ (hw _ (List.mem_of_getElem? (i := 2) rfl))) (mvT hZ (hw _ (List.mem_of_getElem? (i := 3) rfl))) (by decide) (backOf (W := 0) (own_m1 l Z a0 hw [] vu h0 n0 (by assumption)) hZ (hw _ (List.mem_of_getElem? (i := 3) rfl)) (hw _ (List.mem_of_getElem? (i := 2) rfl)) (by decide) (by decide)) (g := (mkF m 22 #[.val (.int vt), .val (.int vu), .val (.int (1 : Int32))] [(.int vu)])) rfl (by rw [hml]; rfl) (argsL := [(.int vu)]) (rest := []) (lenOf own_pd0 rfl) rfl (by show 2 * 0 + _ ≤ _; exact Nat.le_of_eq rfl) (hb hby at_22) (fun _ _ => ⟨rfl, e5, (by decide : 0 + 0 ≤ _), (by decide : 0 + 0 ≤ _)⟩)
  dsimp only [Pt.U, Pt.locs, Pt.cells, Pt.slots] at X6 l6 y6 z6 st6 hQ6
  subst l6 y6 z6
  obtain ⟨rfl, N6q, e6⟩ := hQ6
  have N6 := Fr.app N5 N6q
  refine OGo.on st6 ?_
  show OGo p e below s _ _ _ (T6.setTop (mkF m 25 #[.val (.int vt), .val (.int vu), .val (.int (1 : Int32))] [(.int (own_mic vu))]))
  refine OGo.on (fun t k => XS.iloadN X6.here hx rfl (hb hby at_25) rfl k) ?_
  show OGo p e below s _ _ _ (T6.setTop (mkF m 26 #[.val (.int vt), .val (.int vu), .val (.int (1 : Int32))] [(.int vu), (.int (own_mic vu))]))
  obtain ⟨_, _, ⟨T7, L7, k7, n7⟩, -, X7, ⟨Lc7, hQ7, l7, y7, z7⟩, st7⟩ := Jvm.LawKit.callS X6 hx (y := (⟨"com/example/weaverbird/weaverbird/model/FrameHasMicPinLaw", "reference", "(I)Z"⟩ : MethodName)) hown (mvT hZ (hw _ (List.mem_of_getElem? (i := 4) rfl))) (mvT hZ (hw _ (List.mem_of_getElem? (i := 5) rfl))) (mvT hZ (hw _ (List.mem_of_getElem? (i := 6) rfl))) (mvT hZ (hw _ (List.mem_of_getElem? (i := 7) rfl))) (by decide) (backOf (W := 1) (own_m2 l Z a0 hw [] vu h0 n0 (by assumption)) hZ (hw _ (List.mem_of_getElem? (i := 7) rfl)) (hw _ (List.mem_of_getElem? (i := 6) rfl)) (by decide) (by decide)) (g := (mkF m 26 #[.val (.int vt), .val (.int vu), .val (.int (1 : Int32))] [(.int vu), (.int (own_mic vu))])) rfl (by rw [hml]; rfl) (argsL := [(.int vu)]) (rest := [(.int (own_mic vu))]) (lenOf own_pd0 rfl) rfl (by show 2 * 0 + _ ≤ _; exact Nat.le_of_eq rfl) (hb hby at_26) (fun _ _ => ⟨rfl, e6, (by decide : 0 + 0 ≤ _), (by decide : 0 + 0 ≤ _)⟩)
  dsimp only [Pt.U, Pt.locs, Pt.cells, Pt.slots] at X7 l7 y7 z7 st7 hQ7
  subst l7 y7 z7
  obtain ⟨rfl, N7q, e7⟩ := hQ7
  have N7 := Fr.app N6 N7q
  refine OGo.on st7 ?_
  show OGo p e below s _ _ _ (T7.setTop (mkF m 29 #[.val (.int vt), .val (.int vu), .val (.int (1 : Int32))] [(.int (own_ref vu)), (.int (own_mic vu))]))
  refine OGo.on (fun t k => XS.icmpNo X7.here hx rfl (hb hby at_29) rfl (teq (own_mr vu)).2 k) ?_
  show OGo p e below s _ _ _ (T7.setTop (mkF m 32 #[.val (.int vt), .val (.int vu), .val (.int (1 : Int32))] []))
  refine OGo.on (fun t k => XS.iconst X7.here hx rfl (hb hby at_32) k) ?_
  show OGo p e below s _ _ _ (T7.setTop (mkF m 33 #[.val (.int vt), .val (.int vu), .val (.int (1 : Int32))] [(.int (1 : Int32))]))
  refine OGo.on (fun t k => XS.goto X7.here hx rfl (pc0 := 33) (pc' := 37) rfl (hb hby at_33) (by decide) (by decide) k) ?_
  show OGo p e below s _ _ _ (T7.setTop (mkF m 37 #[.val (.int vt), .val (.int vu), .val (.int (1 : Int32))] [(.int (1 : Int32))]))
  refine OGo.on (fun t k => XS.istoreN X7.here hx rfl (hb hby at_37) rfl (l' := #[.val (.int vt), .val (.int vu), .val (.int (1 : Int32))]) rfl k) ?_
  show OGo p e below s _ _ _ (T7.setTop (mkF m 38 #[.val (.int vt), .val (.int vu), .val (.int (1 : Int32))] []))
  refine OGo.on (fun t k => XS.iloadN X7.here hx rfl (hb hby at_38) rfl k) ?_
  show OGo p e below s _ _ _ (T7.setTop (mkF m 39 #[.val (.int vt), .val (.int vu), .val (.int (1 : Int32))] [(.int (1 : Int32))]))
  refine OGo.on (fun t k => XS.ifNo X7.here hx rfl (hb hby at_39) rfl ((if0 _ _).trans (feq (by decide)).1) k) ?_
  show OGo p e below s _ _ _ (T7.setTop (mkF m 42 #[.val (.int vt), .val (.int vu), .val (.int (1 : Int32))] []))
  refine OGo.on (fun t k => XS.bipush X7.here hx rfl (hb hby at_42) k) ?_
  show OGo p e below s _ _ _ (T7.setTop (mkF m 44 #[.val (.int vt), .val (.int vu), .val (.int (1 : Int32))] [(.int (15 : Int32))]))
  obtain ⟨_, _, ⟨T8, L8, k8, n8⟩, -, X8, ⟨Lc8, hQ8, l8, y8, z8⟩, st8⟩ := Jvm.LawKit.callS X7 hx (y := (⟨"com/example/weaverbird/weaverbird/model/Frame", "hasMic", "(I)Z"⟩ : MethodName)) hown (mvT hZ (hw _ (List.mem_of_getElem? (i := 0) rfl))) (mvT hZ (hw _ (List.mem_of_getElem? (i := 1) rfl))) (mvT hZ (hw _ (List.mem_of_getElem? (i := 2) rfl))) (mvT hZ (hw _ (List.mem_of_getElem? (i := 3) rfl))) (by decide) (backOf (W := 0) (own_m1 l Z a0 hw [] (15 : Int32) h0 n0 (by assumption)) hZ (hw _ (List.mem_of_getElem? (i := 3) rfl)) (hw _ (List.mem_of_getElem? (i := 2) rfl)) (by decide) (by decide)) (g := (mkF m 44 #[.val (.int vt), .val (.int vu), .val (.int (1 : Int32))] [(.int (15 : Int32))])) rfl (by rw [hml]; rfl) (argsL := [(.int (15 : Int32))]) (rest := []) (lenOf own_pd0 rfl) rfl (by show 2 * 0 + _ ≤ _; exact Nat.le_of_eq rfl) (hb hby at_44) (fun _ _ => ⟨rfl, e7, (by decide : 0 + 0 ≤ _), (by decide : 0 + 0 ≤ _)⟩)
  dsimp only [Pt.U, Pt.locs, Pt.cells, Pt.slots] at X8 l8 y8 z8 st8 hQ8
  subst l8 y8 z8
  obtain ⟨rfl, N8q, e8⟩ := hQ8
  have N8 := Fr.app N7 N8q
  refine OGo.on st8 ?_
  show OGo p e below s _ _ _ (T8.setTop (mkF m 47 #[.val (.int vt), .val (.int vu), .val (.int (1 : Int32))] [(.int (own_mic (15 : Int32)))]))
  refine OGo.on (fun t k => XS.ifNo X8.here hx rfl (hb hby at_47) rfl ((if0 _ _).trans (teq (by decide)).2) k) ?_
  show OGo p e below s _ _ _ (T8.setTop (mkF m 50 #[.val (.int vt), .val (.int vu), .val (.int (1 : Int32))] []))
  refine OGo.on (fun t k => XS.iconst X8.here hx rfl (hb hby at_50) k) ?_
  show OGo p e below s _ _ _ (T8.setTop (mkF m 51 #[.val (.int vt), .val (.int vu), .val (.int (1 : Int32))] [(.int (1 : Int32))]))
  refine OGo.on (fun t k => XS.goto X8.here hx rfl (pc0 := 51) (pc' := 55) rfl (hb hby at_51) (by decide) (by decide) k) ?_
  show OGo p e below s _ _ _ (T8.setTop (mkF m 55 #[.val (.int vt), .val (.int vu), .val (.int (1 : Int32))] [(.int (1 : Int32))]))
  refine OGo.on (fun t k => XS.istoreN X8.here hx rfl (hb hby at_55) rfl (l' := #[.val (.int vt), .val (.int vu), .val (.int (1 : Int32))]) rfl k) ?_
  show OGo p e below s _ _ _ (T8.setTop (mkF m 56 #[.val (.int vt), .val (.int vu), .val (.int (1 : Int32))] []))
  refine OGo.on (fun t k => XS.iloadN X8.here hx rfl (hb hby at_56) rfl k) ?_
  show OGo p e below s _ _ _ (T8.setTop (mkF m 57 #[.val (.int vt), .val (.int vu), .val (.int (1 : Int32))] [(.int (1 : Int32))]))
  refine OGo.on (fun t k => XS.ifNo X8.here hx rfl (hb hby at_57) rfl ((if0 _ _).trans (feq (by decide)).1) k) ?_
  show OGo p e below s _ _ _ (T8.setTop (mkF m 60 #[.val (.int vt), .val (.int vu), .val (.int (1 : Int32))] []))
  refine OGo.on (fun t k => XS.bipush X8.here hx rfl (hb hby at_60) k) ?_
  show OGo p e below s _ _ _ (T8.setTop (mkF m 62 #[.val (.int vt), .val (.int vu), .val (.int (1 : Int32))] [(.int (16 : Int32))]))
  obtain ⟨_, _, ⟨T9, L9, k9, n9⟩, -, X9, ⟨Lc9, hQ9, l9, y9, z9⟩, st9⟩ := Jvm.LawKit.callS X8 hx (y := (⟨"com/example/weaverbird/weaverbird/model/Frame", "hasMic", "(I)Z"⟩ : MethodName)) hown (mvT hZ (hw _ (List.mem_of_getElem? (i := 0) rfl))) (mvT hZ (hw _ (List.mem_of_getElem? (i := 1) rfl))) (mvT hZ (hw _ (List.mem_of_getElem? (i := 2) rfl))) (mvT hZ (hw _ (List.mem_of_getElem? (i := 3) rfl))) (by decide) (backOf (W := 0) (own_m1 l Z a0 hw [] (16 : Int32) h0 n0 (by assumption)) hZ (hw _ (List.mem_of_getElem? (i := 3) rfl)) (hw _ (List.mem_of_getElem? (i := 2) rfl)) (by decide) (by decide)) (g := (mkF m 62 #[.val (.int vt), .val (.int vu), .val (.int (1 : Int32))] [(.int (16 : Int32))])) rfl (by rw [hml]; rfl) (argsL := [(.int (16 : Int32))]) (rest := []) (lenOf own_pd0 rfl) rfl (by show 2 * 0 + _ ≤ _; exact Nat.le_of_eq rfl) (hb hby at_62) (fun _ _ => ⟨rfl, e8, (by decide : 0 + 0 ≤ _), (by decide : 0 + 0 ≤ _)⟩)
  dsimp only [Pt.U, Pt.locs, Pt.cells, Pt.slots] at X9 l9 y9 z9 st9 hQ9
  subst l9 y9 z9
  obtain ⟨rfl, N9q, e9⟩ := hQ9
  have N9 := Fr.app N8 N9q
  refine OGo.on st9 ?_
  show OGo p e below s _ _ _ (T9.setTop (mkF m 65 #[.val (.int vt), .val (.int vu), .val (.int (1 : Int32))] [(.int (own_mic (16 : Int32)))]))
  refine OGo.on (fun t k => XS.ifNo X9.here hx rfl (hb hby at_65) rfl ((if0 _ _).trans (feq (by decide)).1) k) ?_
  show OGo p e below s _ _ _ (T9.setTop (mkF m 68 #[.val (.int vt), .val (.int vu), .val (.int (1 : Int32))] []))
  refine OGo.on (fun t k => XS.iconst X9.here hx rfl (hb hby at_68) k) ?_
  show OGo p e below s _ _ _ (T9.setTop (mkF m 69 #[.val (.int vt), .val (.int vu), .val (.int (1 : Int32))] [(.int (1 : Int32))]))
  refine OGo.on (fun t k => XS.goto X9.here hx rfl (pc0 := 69) (pc' := 73) rfl (hb hby at_69) (by decide) (by decide) k) ?_
  show OGo p e below s _ _ _ (T9.setTop (mkF m 73 #[.val (.int vt), .val (.int vu), .val (.int (1 : Int32))] [(.int (1 : Int32))]))
  refine OGo.on (fun t k => XS.istoreN X9.here hx rfl (hb hby at_73) rfl (l' := #[.val (.int vt), .val (.int vu), .val (.int (1 : Int32))]) rfl k) ?_
  show OGo p e below s _ _ _ (T9.setTop (mkF m 74 #[.val (.int vt), .val (.int vu), .val (.int (1 : Int32))] []))
  refine OGo.on (fun t k => XS.iloadN X9.here hx rfl (hb hby at_74) rfl k) ?_
  show OGo p e below s _ _ _ (T9.setTop (mkF m 75 #[.val (.int vt), .val (.int vu), .val (.int (1 : Int32))] [(.int (1 : Int32))]))
  refine OGo.on (fun t k => XS.ifNo X9.here hx rfl (hb hby at_75) rfl ((if0 _ _).trans (feq (by decide)).1) k) ?_
  show OGo p e below s _ _ _ (T9.setTop (mkF m 78 #[.val (.int vt), .val (.int vu), .val (.int (1 : Int32))] []))
  refine OGo.on (fun t k => XS.bipush X9.here hx rfl (hb hby at_78) k) ?_
  show OGo p e below s _ _ _ (T9.setTop (mkF m 80 #[.val (.int vt), .val (.int vu), .val (.int (1 : Int32))] [(.int (47 : Int32))]))
  obtain ⟨_, _, ⟨T10, L10, k10, n10⟩, -, X10, ⟨Lc10, hQ10, l10, y10, z10⟩, st10⟩ := Jvm.LawKit.callS X9 hx (y := (⟨"com/example/weaverbird/weaverbird/model/Frame", "hasMic", "(I)Z"⟩ : MethodName)) hown (mvT hZ (hw _ (List.mem_of_getElem? (i := 0) rfl))) (mvT hZ (hw _ (List.mem_of_getElem? (i := 1) rfl))) (mvT hZ (hw _ (List.mem_of_getElem? (i := 2) rfl))) (mvT hZ (hw _ (List.mem_of_getElem? (i := 3) rfl))) (by decide) (backOf (W := 0) (own_m1 l Z a0 hw [] (47 : Int32) h0 n0 (by assumption)) hZ (hw _ (List.mem_of_getElem? (i := 3) rfl)) (hw _ (List.mem_of_getElem? (i := 2) rfl)) (by decide) (by decide)) (g := (mkF m 80 #[.val (.int vt), .val (.int vu), .val (.int (1 : Int32))] [(.int (47 : Int32))])) rfl (by rw [hml]; rfl) (argsL := [(.int (47 : Int32))]) (rest := []) (lenOf own_pd0 rfl) rfl (by show 2 * 0 + _ ≤ _; exact Nat.le_of_eq rfl) (hb hby at_80) (fun _ _ => ⟨rfl, e9, (by decide : 0 + 0 ≤ _), (by decide : 0 + 0 ≤ _)⟩)
  dsimp only [Pt.U, Pt.locs, Pt.cells, Pt.slots] at X10 l10 y10 z10 st10 hQ10
  subst l10 y10 z10
  obtain ⟨rfl, N10q, e10⟩ := hQ10
  have N10 := Fr.app N9 N10q
  refine OGo.on st10 ?_
  show OGo p e below s _ _ _ (T10.setTop (mkF m 83 #[.val (.int vt), .val (.int vu), .val (.int (1 : Int32))] [(.int (own_mic (47 : Int32)))]))
  refine OGo.on (fun t k => XS.ifNo X10.here hx rfl (hb hby at_83) rfl ((if0 _ _).trans (feq (by decide)).1) k) ?_
  show OGo p e below s _ _ _ (T10.setTop (mkF m 86 #[.val (.int vt), .val (.int vu), .val (.int (1 : Int32))] []))
  refine OGo.on (fun t k => XS.iconst X10.here hx rfl (hb hby at_86) k) ?_
  show OGo p e below s _ _ _ (T10.setTop (mkF m 87 #[.val (.int vt), .val (.int vu), .val (.int (1 : Int32))] [(.int (1 : Int32))]))
  refine OGo.on (fun t k => XS.goto X10.here hx rfl (pc0 := 87) (pc' := 91) rfl (hb hby at_87) (by decide) (by decide) k) ?_
  show OGo p e below s _ _ _ (T10.setTop (mkF m 91 #[.val (.int vt), .val (.int vu), .val (.int (1 : Int32))] [(.int (1 : Int32))]))
  refine OGo.on (fun t k => XS.istoreN X10.here hx rfl (hb hby at_91) rfl (l' := #[.val (.int vt), .val (.int vu), .val (.int (1 : Int32))]) rfl k) ?_
  show OGo p e below s _ _ _ (T10.setTop (mkF m 92 #[.val (.int vt), .val (.int vu), .val (.int (1 : Int32))] []))
  refine OGo.on (fun t k => XS.iloadN X10.here hx rfl (hb hby at_92) rfl k) ?_
  show OGo p e below s _ _ _ (T10.setTop (mkF m 93 #[.val (.int vt), .val (.int vu), .val (.int (1 : Int32))] [(.int (1 : Int32))]))
  refine OGo.on (fun t k => XS.ifNo X10.here hx rfl (hb hby at_93) rfl ((if0 _ _).trans (feq (by decide)).1) k) ?_
  show OGo p e below s _ _ _ (T10.setTop (mkF m 96 #[.val (.int vt), .val (.int vu), .val (.int (1 : Int32))] []))
  refine OGo.on (fun t k => XS.bipush X10.here hx rfl (hb hby at_96) k) ?_
  show OGo p e below s _ _ _ (T10.setTop (mkF m 98 #[.val (.int vt), .val (.int vu), .val (.int (1 : Int32))] [(.int (48 : Int32))]))
  obtain ⟨_, _, ⟨T11, L11, k11, n11⟩, -, X11, ⟨Lc11, hQ11, l11, y11, z11⟩, st11⟩ := Jvm.LawKit.callS X10 hx (y := (⟨"com/example/weaverbird/weaverbird/model/Frame", "hasMic", "(I)Z"⟩ : MethodName)) hown (mvT hZ (hw _ (List.mem_of_getElem? (i := 0) rfl))) (mvT hZ (hw _ (List.mem_of_getElem? (i := 1) rfl))) (mvT hZ (hw _ (List.mem_of_getElem? (i := 2) rfl))) (mvT hZ (hw _ (List.mem_of_getElem? (i := 3) rfl))) (by decide) (backOf (W := 0) (own_m1 l Z a0 hw [] (48 : Int32) h0 n0 (by assumption)) hZ (hw _ (List.mem_of_getElem? (i := 3) rfl)) (hw _ (List.mem_of_getElem? (i := 2) rfl)) (by decide) (by decide)) (g := (mkF m 98 #[.val (.int vt), .val (.int vu), .val (.int (1 : Int32))] [(.int (48 : Int32))])) rfl (by rw [hml]; rfl) (argsL := [(.int (48 : Int32))]) (rest := []) (lenOf own_pd0 rfl) rfl (by show 2 * 0 + _ ≤ _; exact Nat.le_of_eq rfl) (hb hby at_98) (fun _ _ => ⟨rfl, e10, (by decide : 0 + 0 ≤ _), (by decide : 0 + 0 ≤ _)⟩)
  dsimp only [Pt.U, Pt.locs, Pt.cells, Pt.slots] at X11 l11 y11 z11 st11 hQ11
  subst l11 y11 z11
  obtain ⟨rfl, N11q, e11⟩ := hQ11
  have N11 := Fr.app N10 N11q
  refine OGo.on st11 ?_
  show OGo p e below s _ _ _ (T11.setTop (mkF m 101 #[.val (.int vt), .val (.int vu), .val (.int (1 : Int32))] [(.int (own_mic (48 : Int32)))]))
  refine OGo.on (fun t k => XS.ifNo X11.here hx rfl (hb hby at_101) rfl ((if0 _ _).trans (teq (by decide)).2) k) ?_
  show OGo p e below s _ _ _ (T11.setTop (mkF m 104 #[.val (.int vt), .val (.int vu), .val (.int (1 : Int32))] []))
  refine OGo.on (fun t k => XS.iconst X11.here hx rfl (hb hby at_104) k) ?_
  show OGo p e below s _ _ _ (T11.setTop (mkF m 105 #[.val (.int vt), .val (.int vu), .val (.int (1 : Int32))] [(.int (1 : Int32))]))
  refine OGo.on (fun t k => XS.goto X11.here hx rfl (pc0 := 105) (pc' := 109) rfl (hb hby at_105) (by decide) (by decide) k) ?_
  show OGo p e below s _ _ _ (T11.setTop (mkF m 109 #[.val (.int vt), .val (.int vu), .val (.int (1 : Int32))] [(.int (1 : Int32))]))
  refine OGo.on (fun t k => XS.istoreN X11.here hx rfl (hb hby at_109) rfl (l' := #[.val (.int vt), .val (.int vu), .val (.int (1 : Int32))]) rfl k) ?_
  show OGo p e below s _ _ _ (T11.setTop (mkF m 110 #[.val (.int vt), .val (.int vu), .val (.int (1 : Int32))] []))
  refine OGo.on (fun t k => XS.iloadN X11.here hx rfl (hb hby at_110) rfl k) ?_
  show OGo p e below s _ _ _ (T11.setTop (mkF m 111 #[.val (.int vt), .val (.int vu), .val (.int (1 : Int32))] [(.int (1 : Int32))]))
  refine OGo.on (fun t k => XS.ifNo X11.here hx rfl (hb hby at_111) rfl ((if0 _ _).trans (feq (by decide)).1) k) ?_
  show OGo p e below s _ _ _ (T11.setTop (mkF m 114 #[.val (.int vt), .val (.int vu), .val (.int (1 : Int32))] []))
  refine OGo.on (fun t k => XS.bipush X11.here hx rfl (hb hby at_114) k) ?_
  show OGo p e below s _ _ _ (T11.setTop (mkF m 116 #[.val (.int vt), .val (.int vu), .val (.int (1 : Int32))] [(.int (18 : Int32))]))
  obtain ⟨_, _, ⟨T12, L12, k12, n12⟩, -, X12, ⟨Lc12, hQ12, l12, y12, z12⟩, st12⟩ := Jvm.LawKit.callS X11 hx (y := (⟨"com/example/weaverbird/weaverbird/model/Frame", "hasMic", "(I)Z"⟩ : MethodName)) hown (mvT hZ (hw _ (List.mem_of_getElem? (i := 0) rfl))) (mvT hZ (hw _ (List.mem_of_getElem? (i := 1) rfl))) (mvT hZ (hw _ (List.mem_of_getElem? (i := 2) rfl))) (mvT hZ (hw _ (List.mem_of_getElem? (i := 3) rfl))) (by decide) (backOf (W := 0) (own_m1 l Z a0 hw [] (18 : Int32) h0 n0 (by assumption)) hZ (hw _ (List.mem_of_getElem? (i := 3) rfl)) (hw _ (List.mem_of_getElem? (i := 2) rfl)) (by decide) (by decide)) (g := (mkF m 116 #[.val (.int vt), .val (.int vu), .val (.int (1 : Int32))] [(.int (18 : Int32))])) rfl (by rw [hml]; rfl) (argsL := [(.int (18 : Int32))]) (rest := []) (lenOf own_pd0 rfl) rfl (by show 2 * 0 + _ ≤ _; exact Nat.le_of_eq rfl) (hb hby at_116) (fun _ _ => ⟨rfl, e11, (by decide : 0 + 0 ≤ _), (by decide : 0 + 0 ≤ _)⟩)
  dsimp only [Pt.U, Pt.locs, Pt.cells, Pt.slots] at X12 l12 y12 z12 st12 hQ12
  subst l12 y12 z12
  obtain ⟨rfl, N12q, e12⟩ := hQ12
  have N12 := Fr.app N11 N12q
  refine OGo.on st12 ?_
  show OGo p e below s _ _ _ (T12.setTop (mkF m 119 #[.val (.int vt), .val (.int vu), .val (.int (1 : Int32))] [(.int (own_mic (18 : Int32)))]))
  refine OGo.on (fun t k => XS.ifNo X12.here hx rfl (hb hby at_119) rfl ((if0 _ _).trans (feq (by decide)).1) k) ?_
  show OGo p e below s _ _ _ (T12.setTop (mkF m 122 #[.val (.int vt), .val (.int vu), .val (.int (1 : Int32))] []))
  refine OGo.on (fun t k => XS.iconst X12.here hx rfl (hb hby at_122) k) ?_
  show OGo p e below s _ _ _ (T12.setTop (mkF m 123 #[.val (.int vt), .val (.int vu), .val (.int (1 : Int32))] [(.int (1 : Int32))]))
  refine OGo.on (fun t k => XS.goto X12.here hx rfl (pc0 := 123) (pc' := 127) rfl (hb hby at_123) (by decide) (by decide) k) ?_
  show OGo p e below s _ _ _ (T12.setTop (mkF m 127 #[.val (.int vt), .val (.int vu), .val (.int (1 : Int32))] [(.int (1 : Int32))]))
  refine OGo.on (fun t k => XS.istoreN X12.here hx rfl (hb hby at_127) rfl (l' := #[.val (.int vt), .val (.int vu), .val (.int (1 : Int32))]) rfl k) ?_
  show OGo p e below s _ _ _ (T12.setTop (mkF m 128 #[.val (.int vt), .val (.int vu), .val (.int (1 : Int32))] []))
  refine OGo.on (fun t k => XS.iloadN X12.here hx rfl (hb hby at_128) rfl k) ?_
  show OGo p e below s _ _ _ (T12.setTop (mkF m 129 #[.val (.int vt), .val (.int vu), .val (.int (1 : Int32))] [(.int (1 : Int32))]))
  refine OGo.on (fun t k => XS.ifNo X12.here hx rfl (hb hby at_129) rfl ((if0 _ _).trans (feq (by decide)).1) k) ?_
  show OGo p e below s _ _ _ (T12.setTop (mkF m 132 #[.val (.int vt), .val (.int vu), .val (.int (1 : Int32))] []))
  refine OGo.on (fun t k => XS.bipush X12.here hx rfl (hb hby at_132) k) ?_
  show OGo p e below s _ _ _ (T12.setTop (mkF m 134 #[.val (.int vt), .val (.int vu), .val (.int (1 : Int32))] [(.int (48 : Int32))]))
  obtain ⟨_, _, ⟨T13, L13, k13, n13⟩, -, X13, ⟨Lc13, hQ13, l13, y13, z13⟩, st13⟩ := Jvm.LawKit.callS X12 hx (y := (⟨"com/example/weaverbird/weaverbird/model/Frame", "hasMic", "(I)Z"⟩ : MethodName)) hown (mvT hZ (hw _ (List.mem_of_getElem? (i := 0) rfl))) (mvT hZ (hw _ (List.mem_of_getElem? (i := 1) rfl))) (mvT hZ (hw _ (List.mem_of_getElem? (i := 2) rfl))) (mvT hZ (hw _ (List.mem_of_getElem? (i := 3) rfl))) (by decide) (backOf (W := 0) (own_m1 l Z a0 hw [] (48 : Int32) h0 n0 (by assumption)) hZ (hw _ (List.mem_of_getElem? (i := 3) rfl)) (hw _ (List.mem_of_getElem? (i := 2) rfl)) (by decide) (by decide)) (g := (mkF m 134 #[.val (.int vt), .val (.int vu), .val (.int (1 : Int32))] [(.int (48 : Int32))])) rfl (by rw [hml]; rfl) (argsL := [(.int (48 : Int32))]) (rest := []) (lenOf own_pd0 rfl) rfl (by show 2 * 0 + _ ≤ _; exact Nat.le_of_eq rfl) (hb hby at_134) (fun _ _ => ⟨rfl, e12, (by decide : 0 + 0 ≤ _), (by decide : 0 + 0 ≤ _)⟩)
  dsimp only [Pt.U, Pt.locs, Pt.cells, Pt.slots] at X13 l13 y13 z13 st13 hQ13
  subst l13 y13 z13
  obtain ⟨rfl, N13q, e13⟩ := hQ13
  have N13 := Fr.app N12 N13q
  refine OGo.on st13 ?_
  show OGo p e below s _ _ _ (T13.setTop (mkF m 137 #[.val (.int vt), .val (.int vu), .val (.int (1 : Int32))] [(.int (own_mic (48 : Int32)))]))
  refine OGo.on (fun t k => XS.ifNo X13.here hx rfl (hb hby at_137) rfl ((if0 _ _).trans (teq (by decide)).2) k) ?_
  show OGo p e below s _ _ _ (T13.setTop (mkF m 140 #[.val (.int vt), .val (.int vu), .val (.int (1 : Int32))] []))
  refine OGo.on (fun t k => XS.iconst X13.here hx rfl (hb hby at_140) k) ?_
  show OGo p e below s _ _ _ (T13.setTop (mkF m 141 #[.val (.int vt), .val (.int vu), .val (.int (1 : Int32))] [(.int (1 : Int32))]))
  refine OGo.on (fun t k => XS.goto X13.here hx rfl (pc0 := 141) (pc' := 145) rfl (hb hby at_141) (by decide) (by decide) k) ?_
  show OGo p e below s _ _ _ (T13.setTop (mkF m 145 #[.val (.int vt), .val (.int vu), .val (.int (1 : Int32))] [(.int (1 : Int32))]))
  refine OGo.on (fun t k => XS.istoreN X13.here hx rfl (hb hby at_145) rfl (l' := #[.val (.int vt), .val (.int vu), .val (.int (1 : Int32))]) rfl k) ?_
  show OGo p e below s _ _ _ (T13.setTop (mkF m 146 #[.val (.int vt), .val (.int vu), .val (.int (1 : Int32))] []))
  refine OGo.on (fun t k => XS.iloadN X13.here hx rfl (hb hby at_146) rfl k) ?_
  show OGo p e below s _ _ _ (T13.setTop (mkF m 147 #[.val (.int vt), .val (.int vu), .val (.int (1 : Int32))] [(.int (1 : Int32))]))
  refine OGo.on (fun t k => XS.ifNo X13.here hx rfl (hb hby at_147) rfl ((if0 _ _).trans (feq (by decide)).1) k) ?_
  show OGo p e below s _ _ _ (T13.setTop (mkF m 150 #[.val (.int vt), .val (.int vu), .val (.int (1 : Int32))] []))
  refine OGo.on (fun t k => XS.bipush X13.here hx rfl (hb hby at_150) k) ?_
  show OGo p e below s _ _ _ (T13.setTop (mkF m 152 #[.val (.int vt), .val (.int vu), .val (.int (1 : Int32))] [(.int (15 : Int32))]))
  obtain ⟨_, _, ⟨T14, L14, k14, n14⟩, -, X14, ⟨Lc14, hQ14, l14, y14, z14⟩, st14⟩ := Jvm.LawKit.callS X13 hx (y := (⟨"com/example/weaverbird/weaverbird/model/Frame", "hasMic", "(I)Z"⟩ : MethodName)) hown (mvT hZ (hw _ (List.mem_of_getElem? (i := 0) rfl))) (mvT hZ (hw _ (List.mem_of_getElem? (i := 1) rfl))) (mvT hZ (hw _ (List.mem_of_getElem? (i := 2) rfl))) (mvT hZ (hw _ (List.mem_of_getElem? (i := 3) rfl))) (by decide) (backOf (W := 0) (own_m1 l Z a0 hw [] (15 : Int32) h0 n0 (by assumption)) hZ (hw _ (List.mem_of_getElem? (i := 3) rfl)) (hw _ (List.mem_of_getElem? (i := 2) rfl)) (by decide) (by decide)) (g := (mkF m 152 #[.val (.int vt), .val (.int vu), .val (.int (1 : Int32))] [(.int (15 : Int32))])) rfl (by rw [hml]; rfl) (argsL := [(.int (15 : Int32))]) (rest := []) (lenOf own_pd0 rfl) rfl (by show 2 * 0 + _ ≤ _; exact Nat.le_of_eq rfl) (hb hby at_152) (fun _ _ => ⟨rfl, e13, (by decide : 0 + 0 ≤ _), (by decide : 0 + 0 ≤ _)⟩)
  dsimp only [Pt.U, Pt.locs, Pt.cells, Pt.slots] at X14 l14 y14 z14 st14 hQ14
  subst l14 y14 z14
  obtain ⟨rfl, N14q, e14⟩ := hQ14
  have N14 := Fr.app N13 N14q
  refine OGo.on st14 ?_
  show OGo p e below s _ _ _ (T14.setTop (mkF m 155 #[.val (.int vt), .val (.int vu), .val (.int (1 : Int32))] [(.int (own_mic (15 : Int32)))]))
  refine OGo.on (fun t k => XS.ifNo X14.here hx rfl (hb hby at_155) rfl ((if0 _ _).trans (teq (by decide)).2) k) ?_
  show OGo p e below s _ _ _ (T14.setTop (mkF m 158 #[.val (.int vt), .val (.int vu), .val (.int (1 : Int32))] []))
  refine OGo.on (fun t k => XS.iconst X14.here hx rfl (hb hby at_158) k) ?_
  show OGo p e below s _ _ _ (T14.setTop (mkF m 159 #[.val (.int vt), .val (.int vu), .val (.int (1 : Int32))] [(.int (1 : Int32))]))
  refine OGo.on (fun t k => XS.goto X14.here hx rfl (pc0 := 159) (pc' := 163) rfl (hb hby at_159) (by decide) (by decide) k) ?_
  show OGo p e below s _ _ _ (T14.setTop (mkF m 163 #[.val (.int vt), .val (.int vu), .val (.int (1 : Int32))] [(.int (1 : Int32))]))
  refine OGo.on (fun t k => XS.istoreN X14.here hx rfl (hb hby at_163) rfl (l' := #[.val (.int vt), .val (.int vu), .val (.int (1 : Int32))]) rfl k) ?_
  show OGo p e below s _ _ _ (T14.setTop (mkF m 164 #[.val (.int vt), .val (.int vu), .val (.int (1 : Int32))] []))
  refine OGo.on (fun t k => XS.iloadN X14.here hx rfl (hb hby at_164) rfl k) ?_
  show OGo p e below s _ _ _ (T14.setTop (mkF m 165 #[.val (.int vt), .val (.int vu), .val (.int (1 : Int32))] [(.int (1 : Int32))]))
  exact OGo.retN X14 hx (t := .boolean) hret hlk (by simp) (hb hby at_165) ⟨rfl, N14⟩ (by decide) (by decide)
set_option maxRecDepth 65536 in
set_option maxHeartbeats 40000000 in
theorem comes_1 {Post : Tables → Env → Array Value → State → Outcome → State → Prop} (hpost : ∀ tb e args s v u, (limb_1_1.after args s (.returned v) u = true ∧ limb_1_2.after args s (.returned v) u = true ∧ True) → FrameEnd s (.returned v) u (Jvm.fieldLocs frame_1_writes args s ++ Jvm.arrayLocs frame_1_arrays args s ++ Jvm.staticLocs frame_1_statics s) 0 0 → Post tb e args s (.returned v) u) :
    ArmFor flags0 classFile x code maxLocals ret World_1 tables_1 room_1 Calls_1 rest_1 Pre_1 Post := by
  intro l hfl _ _ p e ha hc hk s m args below hf hA hF happ hP
  obtain ⟨hcalls, hrest, hpre⟩ := hP
  obtain ⟨-, -, -, hnamed, -, -, -, hat⟩ := (Spec.applies_iff hf).mp happ
  obtain ⟨hg, hn⟩ := and_e (Cond.before_iff.mp (show (Jvm.Cond.and given_1 narrow_1).before args s = true from hpre))
  obtain ⟨gg15, gg16⟩ := and_e hg
  obtain ⟨gg17, gg18⟩ := and_e gg16
  obtain ⟨w0, w1, rfl⟩ : ∃ w0 w1 : Value, args = #[w0, w1] := by
    have hs : args.size = 2 := by simpa [Cond.value, given_1] using gg15
    obtain ⟨L⟩ := args
    match L, hs with
    | [w0, w1], _ => exact ⟨w0, w1, rfl⟩
  have hw := fun d (hd : d ∈ tables_1) => atoms_spec (ws := Jvm.Cond.code x code maxLocals ret :: tables_1) hat d (List.mem_cons_of_mem _ hd)
  obtain ⟨i0, ei0⟩ := is_v gg17
  obtain rfl : w0 = (.int i0) := Option.some.inj ei0
  obtain ⟨i1, ei1⟩ := is_v gg18
  obtain rfl : w1 = (.int i1) := Option.some.inj ei1
  obtain ⟨n, o, h1, h2, h3, _, L, rfl, ⟨rfl, N⟩, hq⟩ := own_law l s _ hw tables_1 i0 i1 s.heap s.heap.size (Nat.le_refl _)  p e ha hc hk s m _ below hf ((Spec.applies_iff_loose hf).mp happ).1 ⟨rfl, State.Warmed39.refl s, rfl⟩ trivial
  refine ⟨n, _, h1, h2, h3, hpost _ _ _ _ _ _ ⟨Cond.after_iff.mpr rfl, Cond.after_iff.mpr (eq_i res_at (Term.int_eval (1)) rfl), trivial⟩ ⟨hq.1, hq.2.1, (hq.2.2.sift fun y hy => Or.inr (N y hy)).mono (by decide) (by decide)⟩⟩
theorem main_1_1 : Claimed_1_1 := comes_1 fun _ _ _ _ _ _ h hF => ⟨h.1, hF⟩
theorem main_1_2 : Claimed_1_2 := comes_1 fun _ _ _ _ _ _ h hF => ⟨h.2.1, hF⟩
end Jvm.Pilot.@@N@@
namespace Jvm.Pilot.@@N@@
open Jvm Jvm.ClassFile Sem Op Lib Jvm.Free Jvm.Stand Jvm.Pilot.@@N@@.Jvm.D
/-! MADE BY PROGRAM (witnessworld.py) out of the Statement's table words and the real class files: 9 classes; the members and pool entries that the words name. The judged class is class 1, her method 2. -/
namespace start1
open Jvm.ClassFile
def u (s : String) : CpInfo := .utf8 (stringToUtf16 s)
/-- a pool by its gaps: so many unusable entries, then the entry; so many at the end -/
def gap : Nat → List CpInfo → List CpInfo
  | 0, r => r
  | n + 1, r => .unusable :: gap n r
def poolList (es : List (Nat × CpInfo)) (last : Nat) : List CpInfo := es.foldr (fun e r => gap e.1 (e.2 :: r)) (gap last [])
def pool (es : List (Nat × CpInfo)) (last : Nat) : Array CpInfo := ⟨poolList es last⟩
def fileOf (pool : Array CpInfo) (this : Nat) (attrs : Array Attribute := #[]) (ms : Array MethodInfo := #[]) (fl : Nat := 33) (sup : Nat := 0) (ifs : Array Nat := #[]) (fds : Array FieldInfo := #[]) : ClassFile where
  minorVersion := 0
  majorVersion := 65
  constantPool := pool
  accessFlags := fl
  thisClass := this
  superClass := sup
  interfaces := ifs
  fields := fds
  methods := ms
  attributes := attrs
def plain (name : String) (sup : Option ClassId) : Class where
  name := name
  kind := .ordinary
  loader := none
  accessFlags := 33
  super := sup
  interfaces := #[]
  cf := none
  fields := #[]
  methods := #[]
  instanceTypes := #[]
  staticTypes := #[]
  resolved := #[]
  callSites := []
  init := .initialized
  statics := none
  mirror := none

def pool0 : Array CpInfo := pool [(5, u "<init>"), (0, u "()V"), (1, .class_ 10), (1, u "java/lang/Object")] 113

def k0m0 : Method := { name := "<init>", desc := "()V", sig := { parameters := [], returnType := none }, accessFlags := 1, code := none }
/-- java/lang/Object -/
def k0 : Class := { plain "java/lang/Object" none with
  accessFlags := 33
  interfaces := #[]
  cf := some (fileOf pool0 8 #[] #[{ accessFlags := 1, nameIndex := 5, descriptorIndex := 6, attributes := #[] }] 33 0 #[] #[])
  fields := #[]
  methods := #[k0m0]
  instanceTypes := #[]
  staticTypes := #[]
  resolved := Array.replicate 124 none
  statics := none }

def pool1 : Array CpInfo := pool [(2, .class_ 4), (1, u "java/lang/Object"), (0, u "<init>"), (0, u "()V"), (0, .methodref 8 9), (0, .class_ 10), (0, .nameAndType 11 12), (0, u "com/example/weaverbird/weaverbird/model/Frame"), (0, u "hasMic"), (0, u "(I)Z"), (0, .methodref 14 15), (0, .class_ 16), (0, .nameAndType 17 12), (0, u "com/example/weaverbird/weaverbird/model/FrameHasMicPinLaw"), (0, u "reference"), (3, u "law"), (0, u "(II)Z")] 2

def k1m0 : Method := { name := "<init>", desc := "()V", sig := { parameters := [], returnType := none }, accessFlags := 2, code := none }
def k1c1 : Code := { maxStack := 2, maxLocals := 1, code := method_2_code, exceptionTable := #[], attributes := #[] }
def k1m1 : Method := { name := "reference", desc := "(I)Z", sig := { parameters := [.int], returnType := some .boolean }, accessFlags := 10, code := some k1c1 }
def k1c2 : Code := { maxStack := 2, maxLocals := 3, code := code, exceptionTable := #[], attributes := #[] }
def k1m2 : Method := { name := "law", desc := "(II)Z", sig := { parameters := [.int, .int], returnType := some .boolean }, accessFlags := 9, code := some k1c2 }
/-- com/example/weaverbird/weaverbird/model/FrameHasMicPinLaw -/
def k1 : Class := { plain "com/example/weaverbird/weaverbird/model/FrameHasMicPinLaw" (some 0) with
  accessFlags := 49
  interfaces := #[]
  cf := some (fileOf pool1 14 #[] #[{ accessFlags := 2, nameIndex := 5, descriptorIndex := 6, attributes := #[] }, { accessFlags := 10, nameIndex := 17, descriptorIndex := 12, attributes := #[] }, { accessFlags := 9, nameIndex := 21, descriptorIndex := 22, attributes := #[] }] 49 2 #[] #[])
  fields := #[]
  methods := #[k1m0, k1m1, k1m2]
  instanceTypes := #[]
  staticTypes := #[]
  resolved := Array.replicate 25 none
  statics := none }

def pool2 : Array CpInfo := pool [(2, .class_ 4), (1, u "java/lang/Object"), (2, .class_ 8), (0, u "com/example/weaverbird/weaverbird/model/Frame"), (12, u "hasMic"), (0, u "(I)Z"), (5, u "type"), (0, u "I"), (2, u "source"), (0, u "Lcom/example/weaverbird/weaverbird/model/PublicKey;"), (2, u "destination"), (3, u "[B"), (4, u "content"), (2, u "mic"), (2, u "NO_MIC"), (9, u "INITIATE_HANDSHAKE"), (2, u "CONTINUE_HANDSHAKE"), (1, u "CLOSE"), (1, u "IGNORED_FRAME"), (1, u "APPLICATION_MESSAGE"), (1, u "ADVERTISEMENT"), (1, u "MAX_TYPE"), (1, u "MAX_CONTENT_LENGTH"), (1, u "MIC_LENGTH"), (1, u "FIRST_TYPE_WITH_MIC"), (0, u "LAST_TYPE_WITH_MIC")] 35

def k2c0 : Code := { maxStack := 2, maxLocals := 1, code := prog_64_method_3_code, exceptionTable := #[], attributes := #[] }
def k2m0 : Method := { name := "hasMic", desc := "(I)Z", sig := { parameters := [.int], returnType := some .boolean }, accessFlags := 9, code := some k2c0 }
/-- com/example/weaverbird/weaverbird/model/Frame -/
def k2 : Class := { plain "com/example/weaverbird/weaverbird/model/Frame" (some 0) with
  accessFlags := 49
  interfaces := #[]
  cf := some (fileOf pool2 7 #[] #[{ accessFlags := 9, nameIndex := 21, descriptorIndex := 22, attributes := #[] }] 49 2 #[] #[{ accessFlags := 25, nameIndex := 61, descriptorIndex := 29, attributes := #[] }, { accessFlags := 25, nameIndex := 64, descriptorIndex := 29, attributes := #[] }, { accessFlags := 25, nameIndex := 66, descriptorIndex := 29, attributes := #[] }, { accessFlags := 25, nameIndex := 68, descriptorIndex := 29, attributes := #[] }, { accessFlags := 25, nameIndex := 70, descriptorIndex := 29, attributes := #[] }, { accessFlags := 25, nameIndex := 72, descriptorIndex := 29, attributes := #[] }, { accessFlags := 25, nameIndex := 74, descriptorIndex := 29, attributes := #[] }, { accessFlags := 25, nameIndex := 76, descriptorIndex := 29, attributes := #[] }, { accessFlags := 25, nameIndex := 78, descriptorIndex := 29, attributes := #[] }, { accessFlags := 26, nameIndex := 80, descriptorIndex := 29, attributes := #[] }, { accessFlags := 26, nameIndex := 81, descriptorIndex := 29, attributes := #[] }, { accessFlags := 26, nameIndex := 51, descriptorIndex := 40, attributes := #[] }, { accessFlags := 18, nameIndex := 28, descriptorIndex := 29, attributes := #[] }, { accessFlags := 18, nameIndex := 32, descriptorIndex := 33, attributes := #[] }, { accessFlags := 18, nameIndex := 36, descriptorIndex := 33, attributes := #[] }, { accessFlags := 18, nameIndex := 45, descriptorIndex := 40, attributes := #[] }, { accessFlags := 18, nameIndex := 48, descriptorIndex := 40, attributes := #[] }])
  fields := #[{ name := "INITIATE_HANDSHAKE", type := .int, accessFlags := 25, slot := 0, constantValue := 0 }, { name := "CONTINUE_HANDSHAKE", type := .int, accessFlags := 25, slot := 1, constantValue := 0 }, { name := "CLOSE", type := .int, accessFlags := 25, slot := 2, constantValue := 0 }, { name := "IGNORED_FRAME", type := .int, accessFlags := 25, slot := 3, constantValue := 0 }, { name := "APPLICATION_MESSAGE", type := .int, accessFlags := 25, slot := 4, constantValue := 0 }, { name := "ADVERTISEMENT", type := .int, accessFlags := 25, slot := 5, constantValue := 0 }, { name := "MAX_TYPE", type := .int, accessFlags := 25, slot := 6, constantValue := 0 }, { name := "MAX_CONTENT_LENGTH", type := .int, accessFlags := 25, slot := 7, constantValue := 0 }, { name := "MIC_LENGTH", type := .int, accessFlags := 25, slot := 8, constantValue := 0 }, { name := "FIRST_TYPE_WITH_MIC", type := .int, accessFlags := 26, slot := 9, constantValue := 0 }, { name := "LAST_TYPE_WITH_MIC", type := .int, accessFlags := 26, slot := 10, constantValue := 0 }, { name := "NO_MIC", type := (.array .byte), accessFlags := 26, slot := 11, constantValue := 0 }, { name := "type", type := .int, accessFlags := 18, slot := 0, constantValue := 0 }, { name := "source", type := (.object "com/example/weaverbird/weaverbird/model/PublicKey"), accessFlags := 18, slot := 1, constantValue := 0 }, { name := "destination", type := (.object "com/example/weaverbird/weaverbird/model/PublicKey"), accessFlags := 18, slot := 2, constantValue := 0 }, { name := "content", type := (.array .byte), accessFlags := 18, slot := 3, constantValue := 0 }, { name := "mic", type := (.array .byte), accessFlags := 18, slot := 4, constantValue := 0 }]
  methods := #[k2m0]
  instanceTypes := #[.int, (.object "com/example/weaverbird/weaverbird/model/PublicKey"), (.object "com/example/weaverbird/weaverbird/model/PublicKey"), (.array .byte), (.array .byte)]
  staticTypes := #[.int, .int, .int, .int, .int, .int, .int, .int, .int, .int, .int, (.array .byte)]
  resolved := Array.replicate 117 none
  statics := none }

def pool3 : Array CpInfo := pool [(1, u "java/lang/Cloneable"), (0, .class_ 1), (0, u "java/lang/Object"), (0, .class_ 3)] 3

/-- java/lang/Cloneable -/
def k3 : Class := { plain "java/lang/Cloneable" (some 0) with
  accessFlags := 1537
  interfaces := #[]
  cf := some (fileOf pool3 2 #[] #[] 1537 4 #[] #[])
  fields := #[]
  methods := #[]
  instanceTypes := #[]
  staticTypes := #[]
  resolved := Array.replicate 8 none
  statics := none }

def pool4 : Array CpInfo := pool [(1, u "java/io/Serializable"), (0, .class_ 1), (0, u "java/lang/Object"), (0, .class_ 3)] 3

/-- java/io/Serializable -/
def k4 : Class := { plain "java/io/Serializable" (some 0) with
  accessFlags := 1537
  interfaces := #[]
  cf := some (fileOf pool4 2 #[] #[] 1537 4 #[] #[])
  fields := #[]
  methods := #[]
  instanceTypes := #[]
  staticTypes := #[]
  resolved := Array.replicate 8 none
  statics := none }

/-- the primitive byte -/
def k5 : Class := { plain "byte" none with kind := .primitive 'B', accessFlags := 0x411 }
/-- [B -/
def k6 : Class := { plain "[B" (some 0) with kind := .array 5 .byte, interfaces := #[3, 4], accessFlags := 1041 }

/-- the primitive int -/
def k7 : Class := { plain "int" none with kind := .primitive 'I', accessFlags := 0x411 }
/-- [I -/
def k8 : Class := { plain "[I" (some 0) with kind := .array 7 .int, interfaces := #[3, 4], accessFlags := 1041 }

def heap : Heap := #[]
def classes : Array Class := #[k0, k1, k2, k3, k4, k5, k6, k7, k8]
def interned : List (Array UInt16 × Addr) := []
def slotsUsed : Nat := 0
def theMethod : MethodId := ⟨1, 2⟩
def args0 : Array Value := #[.int 5, .int 3]
def aboutOver (below : List Frame) : State where
  vm := { classes := classes, interned := interned.toArray }
  heap := heap
  slotsUsed := slotsUsed
  threads := #[{ frames := .invoking theMethod args0 :: below }]
def below0 : List Frame := [.native { method := ⟨0, 0⟩, args := #[] }]
def about1 : State := aboutOver below0
def p0 : Program := .bare "" "" ""
def e0 : Env := launch0.env 0 0 0
theorem w_frames : about1.frames = Frame.invoking theMethod args0 :: below0 := rfl
set_option maxRecDepth 65536 in
theorem w_args : argsFit about1.vm theMethod args0 = true := by decide +kernel
set_option maxRecDepth 65536 in
theorem w_heap : heapFits about1 = true := by decide +kernel
set_option maxRecDepth 65536 in
theorem w_runnable : about1.curStatus? = some .runnable := by decide +kernel
set_option maxRecDepth 65536 in
theorem w_alone : about1.alone = true := by decide +kernel
set_option maxRecDepth 65536 in
theorem w_named : about1.methodNamed? x = some theMethod := by decide +kernel
set_option maxRecDepth 65536 in
theorem w_hears : about1.hears theMethod below0 = true := by decide +kernel
set_option maxRecDepth 65536 in
theorem w_ripe : about1.ripe theMethod args0 below0 = true := by decide +kernel
theorem w_running : about1.status = .running := rfl
set_option maxRecDepth 65536 in
theorem w_room : about1.hasRoom e0.platform room_1 = true :=
  launch0.hasRoom_least _ room_1 (by decide +kernel) (by decide +kernel) (by decide +kernel) (by decide +kernel) (by decide +kernel) (by decide +kernel)
theorem allAtoms_all (ts : List Jvm.Cond) (a : Array Jvm.Value) (st : Jvm.State) : (allAtoms ts).before a st = ts.all (fun c => c.before a st) := by
  induction ts with
  | nil => rfl
  | cons c t ih =>
    show (Jvm.Cond.and c (allAtoms t)).before a st = _
    rw [Jvm.Cond.before_and, ih, List.all_cons]
def words1 : List Jvm.Cond := Jvm.Cond.code x code maxLocals ret :: tables_1
/-- a 'code' word, met by the world's own term for the bytes: nothing is compared byte by byte -/
theorem code_word {y : MethodName} {bytes : ByteArray} {mx : Nat} {rt : Option FieldType} {a : Array Value} {s : State} {m : MethodId} {meth : Method} {c : Code} (h1 : s.methodNamed? y = some m) (h2 : s.vm.method? m = some meth) (h3 : meth.code = some c) (h4 : c.code = bytes)
    (h5 : (c.maxLocals == mx && c.exceptionTable.isEmpty && decide (c.maxStack ≤ mostOperands) && decide (meth.sig.returnType = rt) && !meth.locks && decide (parseMethodDescriptor y.desc = some meth.sig)) = true) : (Jvm.Cond.code y bytes mx rt).before a s = true := by
  simp only [Bool.and_eq_true, beq_iff_eq, Bool.not_eq_true', decide_eq_true_eq] at h5
  obtain ⟨⟨⟨⟨⟨g1, g2⟩, g3⟩, g4⟩, g5⟩, g6⟩ := h5
  simp [Cond.before, Cond.holds, Cond.value, h1, h2, h3, h4, g1, g2, g3, g4, g5, g6]
def isCode : Jvm.Cond → Bool
  | .code _ _ _ _ => true
  | _ => false
theorem all_split {L : List Jvm.Cond} {P : Jvm.Cond → Bool} (h1 : L.all (fun c => isCode c || P c) = true) (h2 : ∀ c ∈ L.filter isCode, P c = true) : L.all P = true := by
  refine List.all_eq_true.mpr fun c hc => ?_
  have h := List.all_eq_true.mp h1 c hc
  rcases Bool.eq_false_or_eq_true (isCode c) with hi | hi
  · exact h2 c (List.mem_filter.mpr ⟨hc, hi⟩)
  · simpa [hi] using h
set_option maxRecDepth 65536 in
theorem w_c0 : (Jvm.Cond.code x code maxLocals ret).before args0 about1 = true := code_word (m := ⟨1, 2⟩) (meth := k1m2) (c := k1c2) (by decide +kernel) rfl rfl rfl (by decide +kernel)
set_option maxRecDepth 65536 in
theorem w_c1 : (Jvm.Cond.code ({ cls := "com/example/weaverbird/weaverbird/model/Frame", name := "hasMic", desc := "(I)Z" } : Jvm.MethodName) prog_64_method_3_code (1 : Nat) (Option.some Jvm.ClassFile.FieldType.boolean)).before args0 about1 = true := code_word (m := ⟨2, 0⟩) (meth := k2m0) (c := k2c0) (by decide +kernel) rfl rfl rfl (by decide +kernel)
set_option maxRecDepth 65536 in
theorem w_c2 : (Jvm.Cond.code ({ cls := "com/example/weaverbird/weaverbird/model/FrameHasMicPinLaw", name := "reference", desc := "(I)Z" } : Jvm.MethodName) method_2_code (1 : Nat) (Option.some Jvm.ClassFile.FieldType.boolean)).before args0 about1 = true := code_word (m := ⟨1, 1⟩) (meth := k1m1) (c := k1c1) (by decide +kernel) rfl rfl rfl (by decide +kernel)
def codes1 : List Jvm.Cond := [Jvm.Cond.code x code maxLocals ret, Jvm.Cond.code ({ cls := "com/example/weaverbird/weaverbird/model/Frame", name := "hasMic", desc := "(I)Z" } : Jvm.MethodName) prog_64_method_3_code (1 : Nat) (Option.some Jvm.ClassFile.FieldType.boolean), Jvm.Cond.code ({ cls := "com/example/weaverbird/weaverbird/model/FrameHasMicPinLaw", name := "reference", desc := "(I)Z" } : Jvm.MethodName) method_2_code (1 : Nat) (Option.some Jvm.ClassFile.FieldType.boolean)]
set_option maxRecDepth 65536 in
theorem codes_eq : words1.filter isCode = codes1 := rfl
theorem w_codes : ∀ c ∈ words1.filter isCode, c.before args0 about1 = true := by
  rw [codes_eq]
  intro c hc
  simp only [codes1, List.mem_cons, List.not_mem_nil, or_false] at hc
  rcases hc with rfl | rfl | rfl
  · exact w_c0
  · exact w_c1
  · exact w_c2
set_option maxRecDepth 65536 in
theorem w_t1 : words1.all (fun c => isCode c || c.before args0 about1) = true := by decide +kernel
theorem w_tables : (allAtoms (Jvm.Cond.code x code maxLocals ret :: tables_1)).before args0 about1 = true := by
  rw [allAtoms_all]
  show words1.all (fun c => c.before args0 about1) = true
  refine all_split ?_ w_codes
  rw [w_t1]
set_option maxRecDepth 65536 in
theorem w_case : (Jvm.Cond.and given_1 narrow_1).before args0 about1 = true := by decide +kernel
theorem w_applies : (headSpec (Jvm.Cond.code x code maxLocals ret :: tables_1) room_1).applies x e0.platform about1 = true :=
  (Spec.applies_iff w_frames).mpr ⟨w_running, w_runnable, w_alone, w_named, w_hears, w_ripe, w_room, w_tables⟩
theorem atStart : AtStart classFile x code maxLocals ret World_1 tables_1 room_1 Calls_1 rest_1 Pre_1 launch0 p0 e0 about1 theMethod args0 below0 :=
  ⟨lists_1, trivial, launch0.admits_env _ _ _, launch0.least_env, fairChoices_fair.cas, fairChoices_fair.clock, w_frames, w_args, w_heap, w_applies, trivial, trivial, w_case⟩
end start1
theorem witness_1 : WitnessClaimed_1 := ⟨start1.p0, start1.e0, start1.about1, start1.theMethod, start1.args0, start1.below0, start1.atStart⟩
end Jvm.Pilot.@@N@@
