import JvmDerived
import JvmDerived.Pilot.@@N@@Statement
import JvmDerived.Pilot.@@N@@Code
set_option linter.unusedVariables false
set_option linter.unusedSimpArgs false
@@BLOCK:NumsL.lean.txt@@
namespace Jvm.RoadKit
open Sem ClassFile Op Lib Jvm.Stand Jvm.Free Jvm.LawKit
section Own
variable {p : Program} {l : Launch} {e : Env} {R : Room} {s : State} {m : MethodId} {args : Array Value} {below : List Frame} {meth : Method} {c : Code} {T : State} {locs : List Loc} {cells slots : Nat} {Z : State} {h h' : Heap} {Q : Option Value → Heap → List Loc → Prop} {kc ks : Nat}
/-- from the state S the run comes to an end of which Q holds -/
def OGo (p : Program) (e : Env) (below : List Frame) (s : State) (Q : Option Value → Heap → List Loc → Prop) (kc ks : Nat) (S : State) : Prop :=
  ∃ s₂ o, Steps p.tables e below S s₂ ∧ s₂.status = .running ∧ Ended s₂ below o ∧ ∃ v L, o = .returned v ∧ Q v s₂.heap L ∧ FrameEnd s o s₂ L kc ks
theorem OGo.on {C N : State} (st : ∀ t, Steps p.tables e below N t → Steps p.tables e below C t) (h : OGo p e below s Q kc ks N) : OGo p e below s Q kc ks C := by
  obtain ⟨s₂, o, h1, h2⟩ := h
  exact ⟨s₂, o, st _ h1, h2⟩
theorem OGo.fin (X : Stand p l e R s m args below meth c T locs cells slots) {v : Option Value} (hv : meth.sig.returnType = none → v = none) (hlocks : meth.locks = false) {C : State}
    (st : ∀ fs, (∀ (f : JFrame) (acts : List Action), f.method = m → f.locked = none → f.entered = [] → (doReturn e (T.setTop f) acts v).1 = T.setFrames fs) → Steps p.tables e below C (T.setFrames fs)) (hq : Q v T.heap locs) (hc : cells ≤ kc) (hs : slots ≤ ks) : OGo p e below s Q kc ks C := by
  obtain ⟨fs, hr, hrun, hended, hW, hsame⟩ := X.leave hv hlocks
  exact ⟨_, _, st fs hr, hrun, hended, v, locs, rfl, hq, ⟨_, rfl⟩, hW, hsame.mono hc hs⟩
theorem OGo.retN (X : Stand p l e R s m args below meth c T locs cells slots) (hx : p.tables.exec = Jvm.exec) {pc : Nat} {Ls : Array Slot} {z : Int32} {t : FieldType} {rest : List Value} (hret : meth.sig.returnType = some t) (hlocks : meth.locks = false) (ht : t = .boolean ∨ t = .byte ∨ t = .char ∨ t = .short)
    (hd : decode c.code pc = .ok (.ireturn, 1)) (hq : Q (some (.int (nar t z))) T.heap locs) (hc : cells ≤ kc) (hs : slots ≤ ks) : OGo p e below s Q kc ks (T.setTop (mkF m pc Ls (.int z :: rest))) :=
  OGo.fin X (fun h => by rw [hret] at h; cases h) hlocks (fun fs hr => Jvm.RoadKit.retN X hx hret ht hd hr) hq hc hs
theorem OGo.retI (X : Stand p l e R s m args below meth c T locs cells slots) (hx : p.tables.exec = Jvm.exec) {pc : Nat} {Ls : Array Slot} {z : Int32} {rest : List Value} (hret : meth.sig.returnType = some .int) (hlocks : meth.locks = false)
    (hd : decode c.code pc = .ok (.ireturn, 1)) (hq : Q (some (.int z)) T.heap locs) (hc : cells ≤ kc) (hs : slots ≤ ks) : OGo p e below s Q kc ks (T.setTop (mkF m pc Ls (.int z :: rest))) :=
  OGo.fin X (fun h => by rw [hret] at h; cases h) hlocks (fun fs hr => retOut X hx hret rfl (Or.inl ⟨rfl, Or.inl rfl, _, rfl⟩) hd hr) hq hc hs
theorem OGo.retJ (X : Stand p l e R s m args below meth c T locs cells slots) (hx : p.tables.exec = Jvm.exec) {pc : Nat} {Ls : Array Slot} {z : Int64} {rest : List Value} (hret : meth.sig.returnType = some .long) (hlocks : meth.locks = false)
    (hd : decode c.code pc = .ok (.lreturn, 1)) (hq : Q (some (.long z)) T.heap locs) (hc : cells ≤ kc) (hs : slots ≤ ks) : OGo p e below s Q kc ks (T.setTop (mkF m pc Ls (.long z :: rest))) :=
  OGo.fin X (fun h => by rw [hret] at h; cases h) hlocks (fun fs hr => retOut X hx hret rfl (Or.inr (Or.inl ⟨rfl, rfl, _, rfl⟩)) hd hr) hq hc hs
theorem OGo.retA (X : Stand p l e R s m args below meth c T locs cells slots) (hx : p.tables.exec = Jvm.exec) {pc : Nat} {Ls : Array Slot} {a : Addr} {t : FieldType} {rest : List Value} (hret : meth.sig.returnType = some t) (ht : t.isReference = true) (hn : narrow t (.ref a) = .ref a) (hlocks : meth.locks = false)
    (hd : decode c.code pc = .ok (.areturn, 1)) (hq : Q (some (.ref a)) T.heap locs) (hc : cells ≤ kc) (hs : slots ≤ ks) : OGo p e below s Q kc ks (T.setTop (mkF m pc Ls (.ref a :: rest))) :=
  OGo.fin X (fun h => by rw [hret] at h; cases h) hlocks (fun fs hr => retOut X hx hret hn (Or.inr (Or.inr (Or.inr (Or.inr ⟨rfl, ht, rfl⟩)))) hd hr) hq hc hs
theorem OGo.ret0 (X : Stand p l e R s m args below meth c T locs cells slots) (hx : p.tables.exec = Jvm.exec) {pc : Nat} {Ls : Array Slot} (hret : meth.sig.returnType = none) (hlocks : meth.locks = false)
    (hd : decode c.code pc = .ok (.return_, 1)) (hq : Q none T.heap locs) (hc : cells ≤ kc) (hs : slots ≤ ks) : OGo p e below s Q kc ks (T.setTop (mkF m pc Ls [])) :=
  OGo.fin X (fun _ => rfl) hlocks (fun fs hr => X.returnOut hx hret hd hr) hq hc hs
/-- what a body that writes nothing leaves -/
def OPure (n0 : Nat) (h0 : Heap) (r : Option Value) (v : Option Value) (h : Heap) (L : List Loc) : Prop := v = r ∧ Fr n0 L ∧ h = h0
theorem opI {n0 : Nat} {h0 : Heap} {x y : Int32} {L : List Loc} (q : x = y) (N : Fr n0 L) (E : h = h0) : OPure n0 h0 (some (.int y)) (some (.int x)) h L := ⟨by rw [q], N, E⟩
theorem opJ {n0 : Nat} {h0 : Heap} {x y : Int64} {L : List Loc} (q : x = y) (N : Fr n0 L) (E : h = h0) : OPure n0 h0 (some (.long y)) (some (.long x)) h L := ⟨by rw [q], N, E⟩
theorem own_nz1 : nar .boolean 1 = 1 := rfl
theorem own_nz0 : nar .boolean 0 = 0 := rfl
theorem own_irem {C : State} {x y : Int32} {g : JFrame} (X : Stand p l e R s m args below meth c T locs cells slots) (hx : p.tables.exec = Jvm.exec) (hg : g.method = m) {rest : List Value} (hd : decode c.code g.pc = .ok (.irem, 1)) (hs : g.stack = .int y :: .int x :: rest) (hy : y ≠ 0) :
    ∀ t, Steps p.tables e below (T.setTop { g with pc := g.pc + 1, stack := .int (x % y) :: rest }) t → Steps p.tables e below (T.setTop g) t := fun t k => iremM X hx hg hd hs hy k
/-! lcmp and the branch behind it -/
theorem own_lc (cd : ClassFile.Cond) (a b : Int64) : ifCond.holds cd (lcmpW a b) = (match cd with | .eq => decide (a = b) | .ne => !decide (a = b) | .lt => decide (a < b) | .ge => !decide (a < b) | .gt => decide (b < a) | .le => !decide (b < a)) := by
  have h1 : a = b ↔ a.toInt = b.toInt := (Int64.toInt_inj).symm
  by_cases g : a > b
  · have g' : b.toInt < a.toInt := Int64.lt_iff_toInt_lt.mp g
    have e1 : lcmpW a b = 1 := if_pos g
    have e2 : ¬ a = b := fun q => by rw [h1] at q; omega
    have e3 : ¬ a < b := fun q => by rw [Int64.lt_iff_toInt_lt] at q; omega
    have e4 : b < a := g
    rw [e1]; cases cd <;> simp [e2, e3, e4] <;> decide
  · by_cases q : a = b
    · have e1 : lcmpW a b = 0 := by rw [lcmpW, if_neg g, if_pos q]
      subst q
      have e3 : ¬ a < a := fun q => by rw [Int64.lt_iff_toInt_lt] at q; omega
      rw [e1]; cases cd <;> simp [e3] <;> decide
    · have e1 : lcmpW a b = -1 := by rw [lcmpW, if_neg g, if_neg q]
      have g1 : ¬ b < a := g
      have g2 : a < b := by rw [Int64.lt_iff_toInt_lt] at g1 ⊢; rw [h1] at q; omega
      rw [e1]; cases cd <;> simp [q, g1, g2] <;> decide
theorem lc_tlt {a b : Int64} (h : a < b) : ifCond.holds .lt (lcmpW a b) = true ∧ ifCond.holds .ge (lcmpW a b) = false ∧ ifCond.holds .gt (lcmpW b a) = true ∧ ifCond.holds .le (lcmpW b a) = false := by simp only [own_lc]; simp [h]
theorem lc_flt {a b : Int64} (h : ¬ a < b) : ifCond.holds .lt (lcmpW a b) = false ∧ ifCond.holds .ge (lcmpW a b) = true ∧ ifCond.holds .gt (lcmpW b a) = false ∧ ifCond.holds .le (lcmpW b a) = true := by simp only [own_lc]; simp [h]
theorem lc_teq {a b : Int64} (h : a = b) : ifCond.holds .eq (lcmpW a b) = true ∧ ifCond.holds .ne (lcmpW a b) = false := by simp only [own_lc]; simp [h]
theorem lc_feq {a b : Int64} (h : ¬ a = b) : ifCond.holds .eq (lcmpW a b) = false ∧ ifCond.holds .ne (lcmpW a b) = true := by simp only [own_lc]; simp [h]
theorem own_nm0 {a : Addr} : a ∉ ([] : List Addr) := fun q => nomatch q
theorem own_nm1 {a b : Addr} (h : a ≠ b) : a ∉ [b] := fun q => h (List.mem_singleton.mp q)
theorem own_nm2 {a b d : Addr} (h : a ≠ b) (h' : a ≠ d) : a ∉ [b, d] := fun q => (List.mem_cons.mp q).elim h fun q => h' (List.mem_singleton.mp q)
theorem own_nm3 {a b d f : Addr} (h : a ≠ b) (h' : a ≠ d) (h'' : a ≠ f) : a ∉ [b, d, f] := fun q => (List.mem_cons.mp q).elim h fun q => (own_nm2 h' h'') q
/-! arrays of numbers, known whole -/
/-- the array at a holds just the ints vs -/
def OAL (Z : State) (h : Heap) (a : Addr) (ty : FieldType) (vs : List Int32) : Prop := ∃ c : Cell, Arr Z h a c ty ∧ c.slots = (vs.map Value.int).toArray
/-- the array at a holds just the longs vs -/
def OAJ (Z : State) (h : Heap) (a : Addr) (vs : List Int64) : Prop := ∃ c : Cell, Arr Z h a c .long ∧ c.slots = (vs.map Value.long).toArray
/-- the place j lies inside and holds v -/
def OAt {α : Type} (vs : List α) (j : Int32) (v : α) : Prop := ¬ j < 0 ∧ vs[j.toNatClampNeg]? = some v
variable {a b : Addr} {ty : FieldType} {vs : List Int32} {us : List Int64} {ws : List Addr} {sl : Nat} {w : Value}
theorem OAL.lt (A : OAL Z h a ty vs) : a < h.size := by obtain ⟨c, A, -⟩ := A; exact A.lt
theorem OAJ.lt (A : OAJ Z h a us) : a < h.size := by obtain ⟨c, A, -⟩ := A; exact A.lt
theorem OAL.ext (A : OAL Z h a ty vs) (E : Ext h h') : OAL Z h' a ty vs := by obtain ⟨c, A, r⟩ := A; exact ⟨c, A.ext E, r⟩
theorem OAJ.ext (A : OAJ Z h a us) (E : Ext h h') : OAJ Z h' a us := by obtain ⟨c, A, r⟩ := A; exact ⟨c, A.ext E, r⟩
theorem OAL.keep (A : OAL Z h a ty vs) (K : Keep h h' ws) (q : a ∉ ws) : OAL Z h' a ty vs := by obtain ⟨c, A, r⟩ := A; exact ⟨c, ⟨K.2.1 a c A.1 q, A.2⟩, r⟩
theorem OAJ.keep (A : OAJ Z h a us) (K : Keep h h' ws) (q : a ∉ ws) : OAJ Z h' a us := by obtain ⟨c, A, r⟩ := A; exact ⟨c, ⟨K.2.1 a c A.1 q, A.2⟩, r⟩
theorem OAL.other (A : OAL Z h b ty vs) (W : Wr h h' a sl w) (q : b ≠ a) : OAL Z h' b ty vs := by obtain ⟨c, A, r⟩ := A; exact ⟨c, A.other W q, r⟩
theorem OAJ.other (A : OAJ Z h b us) (W : Wr h h' a sl w) (q : b ≠ a) : OAJ Z h' b us := by obtain ⟨c, A, r⟩ := A; exact ⟨c, A.other W q, r⟩
theorem own_slots (cl : Cell) (i : Nat) (v : Value) : (cl.setSlot i v).slots = cl.slots.setIfInBounds i v := rfl
theorem OAL.same (A : OAL Z h a ty vs) {i : Nat} {x : Int32} (W : Wr h h' a i (.int x)) : OAL Z h' a ty (vs.set i x) := by
  obtain ⟨c, A, r⟩ := A
  exact ⟨_, A.same W, by rw [own_slots, r]; simp [List.map_set]⟩
theorem OAJ.same (A : OAJ Z h a us) {i : Nat} {x : Int64} (W : Wr h h' a i (.long x)) : OAJ Z h' a (us.set i x) := by
  obtain ⟨c, A, r⟩ := A
  exact ⟨_, A.same W, by rw [own_slots, r]; simp [List.map_set]⟩
theorem OAL.new {cA : ClassId} {n : Int32} (A : Arr Z h a (newA cA ty n) ty) (q : defaultValue ty = .int 0) : OAL Z h a ty (List.replicate n.toNatClampNeg 0) := ⟨_, A, by
  show Array.replicate n.toNatClampNeg (defaultValue ty) = _
  rw [q]; simp⟩
theorem OAJ.new {cA : ClassId} {n : Int32} (A : Arr Z h a (newA cA .long n) .long) : OAJ Z h a (List.replicate n.toNatClampNeg 0) := ⟨_, A, by
  show Array.replicate n.toNatClampNeg (Value.long 0) = _
  simp⟩
theorem own_in {α : Type} {vs : List α} {f : α → Value} {j : Int32} {v : α} {cl : Cell} (r : cl.slots = (vs.map f).toArray) (q : OAt vs j v) : ¬ (j < 0 ∨ cl.slots.size ≤ j.toNatClampNeg) ∧ cl.slots[j.toNatClampNeg]? = some (f v) := by
  obtain ⟨q1, q2⟩ := q
  have hl := (List.getElem?_eq_some_iff.mp q2).1
  rw [r]
  refine ⟨fun z => z.elim q1 fun y => ?_, ?_⟩
  · simp at y; omega
  · simp [q2]
theorem OAL.baB (X : Stand p l e R s m args below meth c T locs cells slots) (hx : p.tables.exec = Jvm.exec) (hZ : Z.Warmed39 s.vm) (eT : T.heap = h) (A : OAL Z h a .byte vs) {j v : Int32} (q : OAt vs j v) {pc : Nat} {Ls : Array Slot} {rest : List Value} (hd : decode c.code pc = .ok (.baload, 1)) {t : State}
    (k : Steps p.tables e below (T.setTop (mkF m (pc + 1) Ls (.int v :: rest))) t) : Steps p.tables e below (T.setTop (mkF m pc Ls (.int j :: .ref a :: rest))) t := by
  obtain ⟨cl, A, r⟩ := A
  exact X.baloadBytes hx (j := j) (v := .int v) (by rw [eT]; exact A.1) (State.isArrayOf_alike hZ.alike A.2.1) A.2.2 (own_in r q).1 (own_in r q).2 (g := mkF m pc Ls (.int j :: .ref a :: rest)) rfl rfl hd _ k
theorem OAL.baZ (X : Stand p l e R s m args below meth c T locs cells slots) (hx : p.tables.exec = Jvm.exec) (hZ : Z.Warmed39 s.vm) (eT : T.heap = h) (A : OAL Z h a .boolean vs) {j v : Int32} (q : OAt vs j v) {pc : Nat} {Ls : Array Slot} {rest : List Value} (hd : decode c.code pc = .ok (.baload, 1)) {t : State}
    (k : Steps p.tables e below (T.setTop (mkF m (pc + 1) Ls (.int v :: rest))) t) : Steps p.tables e below (T.setTop (mkF m pc Ls (.int j :: .ref a :: rest))) t := by
  obtain ⟨cl, A, r⟩ := A
  exact X.baloadBooleans hx (j := j) (v := .int v) (by rw [eT]; exact A.1) (State.isArrayOf_alike hZ.alike A.2.1) A.2.2 (own_in r q).1 (own_in r q).2 (g := mkF m pc Ls (.int j :: .ref a :: rest)) rfl rfl hd _ k
theorem OAL.ia (X : Stand p l e R s m args below meth c T locs cells slots) (hx : p.tables.exec = Jvm.exec) (hZ : Z.Warmed39 s.vm) (eT : T.heap = h) (A : OAL Z h a .int vs) {j v : Int32} (q : OAt vs j v) {pc : Nat} {Ls : Array Slot} {rest : List Value} (hd : decode c.code pc = .ok (.iaload, 1)) {t : State}
    (k : Steps p.tables e below (T.setTop (mkF m (pc + 1) Ls (.int v :: rest))) t) : Steps p.tables e below (T.setTop (mkF m pc Ls (.int j :: .ref a :: rest))) t := by
  obtain ⟨cl, A, r⟩ := A
  exact X.iaload hx (j := j) (v := .int v) (by rw [eT]; exact A.1) (State.isArrayOf_alike hZ.alike A.2.1) A.2.2 (own_in r q).1 (own_in r q).2 (g := mkF m pc Ls (.int j :: .ref a :: rest)) rfl rfl hd _ k
theorem OAJ.la (X : Stand p l e R s m args below meth c T locs cells slots) (hx : p.tables.exec = Jvm.exec) (hZ : Z.Warmed39 s.vm) (eT : T.heap = h) (A : OAJ Z h a us) {j : Int32} {v : Int64} (q : OAt us j v) {pc : Nat} {Ls : Array Slot} {rest : List Value} (hd : decode c.code pc = .ok (.laload, 1)) {t : State}
    (k : Steps p.tables e below (T.setTop (mkF m (pc + 1) Ls (.long v :: rest))) t) : Steps p.tables e below (T.setTop (mkF m pc Ls (.int j :: .ref a :: rest))) t := by
  obtain ⟨cl, A, r⟩ := A
  exact X.laload hx (j := j) (v := .long v) (by rw [eT]; exact A.1) (State.isArrayOf_alike hZ.alike A.2.1) A.2.2 (own_in r q).1 (own_in r q).2 (g := mkF m pc Ls (.int j :: .ref a :: rest)) rfl rfl hd _ k
theorem OAL.len (X : Stand p l e R s m args below meth c T locs cells slots) (hx : p.tables.exec = Jvm.exec) (hZ : Z.Warmed39 s.vm) (eT : T.heap = h) (A : OAL Z h a ty vs) {n : Int32} (q : vs.length.toInt32 = n) {pc : Nat} {Ls : Array Slot} {rest : List Value} (hd : decode c.code pc = .ok (.arraylength, 1)) {t : State}
    (k : Steps p.tables e below (T.setTop (mkF m (pc + 1) Ls (.int n :: rest))) t) : Steps p.tables e below (T.setTop (mkF m pc Ls (.ref a :: rest))) t := by
  obtain ⟨cl, A, r⟩ := A
  have z : cl.slots.size = vs.length := by rw [r]; simp
  exact X.arraylength hx (by rw [eT]; exact A.1) (State.isArrayOf_alike hZ.alike A.2.1) (g := mkF m pc Ls (.ref a :: rest)) rfl rfl hd _ (by rw [z, q]; exact k)
theorem OAJ.len (X : Stand p l e R s m args below meth c T locs cells slots) (hx : p.tables.exec = Jvm.exec) (hZ : Z.Warmed39 s.vm) (eT : T.heap = h) (A : OAJ Z h a us) {n : Int32} (q : us.length.toInt32 = n) {pc : Nat} {Ls : Array Slot} {rest : List Value} (hd : decode c.code pc = .ok (.arraylength, 1)) {t : State}
    (k : Steps p.tables e below (T.setTop (mkF m (pc + 1) Ls (.int n :: rest))) t) : Steps p.tables e below (T.setTop (mkF m pc Ls (.ref a :: rest))) t := by
  obtain ⟨cl, A, r⟩ := A
  have z : cl.slots.size = us.length := by rw [r]; simp
  exact X.arraylength hx (by rw [eT]; exact A.1) (State.isArrayOf_alike hZ.alike A.2.1) (g := mkF m pc Ls (.ref a :: rest)) rfl rfl hd _ (by rw [z, q]; exact k)
theorem own_into {α : Type} {vs : List α} {f : α → Value} {j : Int32} {cl : Cell} (r : cl.slots = (vs.map f).toArray) (q1 : ¬ j < 0) (q2 : j.toNatClampNeg < vs.length) : ¬ (j < 0 ∨ cl.slots.size ≤ j.toNatClampNeg) := by
  rw [r]
  exact fun z => z.elim q1 fun y => by simp at y; omega
theorem OAL.stB (X : Stand p l e R s m args below meth c T locs cells slots) (hx : p.tables.exec = Jvm.exec) (hZ : Z.Warmed39 s.vm) (eT : T.heap = h) (A : OAL Z h a .byte vs) {j x : Int32} (q1 : ¬ j < 0) (q2 : j.toNatClampNeg < vs.length) {pc : Nat} {Ls : Array Slot} {rest : List Value} (hd : decode c.code pc = .ok (.bastore, 1)) :
    ∃ T' h', Stand p l e R s m args below meth c T' (locs ++ [⟨a, j.toNatClampNeg⟩]) cells slots ∧ T'.heap = h' ∧ Wr h h' a j.toNatClampNeg (.int (nar .byte x)) ∧ OAL Z h' a .byte (vs.set j.toNatClampNeg (nar .byte x)) ∧ ∀ t, Steps p.tables e below (T'.setTop (mkF m (pc + 1) Ls rest)) t → Steps p.tables e below (T.setTop (mkF m pc Ls (.int x :: .int j :: .ref a :: rest))) t := by
  obtain ⟨cl, A', r⟩ := A
  obtain ⟨T', h', X', e', W', st⟩ := Jvm.RoadKit.stB X hx hZ eT A' (j := j) (x := x) (own_into r q1 q2) (g := mkF m pc Ls (.int x :: .int j :: .ref a :: rest)) rfl rfl hd
  exact ⟨T', h', X', e', W', OAL.same ⟨cl, A', r⟩ W', st⟩
theorem OAL.stZ (X : Stand p l e R s m args below meth c T locs cells slots) (hx : p.tables.exec = Jvm.exec) (hZ : Z.Warmed39 s.vm) (eT : T.heap = h) (A : OAL Z h a .boolean vs) {j x : Int32} (q1 : ¬ j < 0) (q2 : j.toNatClampNeg < vs.length) {pc : Nat} {Ls : Array Slot} {rest : List Value} (hd : decode c.code pc = .ok (.bastore, 1)) :
    ∃ T' h', Stand p l e R s m args below meth c T' (locs ++ [⟨a, j.toNatClampNeg⟩]) cells slots ∧ T'.heap = h' ∧ Wr h h' a j.toNatClampNeg (.int (nar .boolean x)) ∧ OAL Z h' a .boolean (vs.set j.toNatClampNeg (nar .boolean x)) ∧ ∀ t, Steps p.tables e below (T'.setTop (mkF m (pc + 1) Ls rest)) t → Steps p.tables e below (T.setTop (mkF m pc Ls (.int x :: .int j :: .ref a :: rest))) t := by
  obtain ⟨cl, A', r⟩ := A
  obtain ⟨T', h', X', e', W', st⟩ := Jvm.RoadKit.stZ X hx hZ eT A' (j := j) (x := x) (own_into r q1 q2) (g := mkF m pc Ls (.int x :: .int j :: .ref a :: rest)) rfl rfl hd
  exact ⟨T', h', X', e', W', OAL.same ⟨cl, A', r⟩ W', st⟩
theorem OAL.stI (X : Stand p l e R s m args below meth c T locs cells slots) (hx : p.tables.exec = Jvm.exec) (hZ : Z.Warmed39 s.vm) (eT : T.heap = h) (A : OAL Z h a .int vs) {j x : Int32} (q1 : ¬ j < 0) (q2 : j.toNatClampNeg < vs.length) {pc : Nat} {Ls : Array Slot} {rest : List Value} (hd : decode c.code pc = .ok (.iastore, 1)) :
    ∃ T' h', Stand p l e R s m args below meth c T' (locs ++ [⟨a, j.toNatClampNeg⟩]) cells slots ∧ T'.heap = h' ∧ Wr h h' a j.toNatClampNeg (.int x) ∧ OAL Z h' a .int (vs.set j.toNatClampNeg x) ∧ ∀ t, Steps p.tables e below (T'.setTop (mkF m (pc + 1) Ls rest)) t → Steps p.tables e below (T.setTop (mkF m pc Ls (.int x :: .int j :: .ref a :: rest))) t := by
  obtain ⟨cl, A', r⟩ := A
  obtain ⟨T', h', X', e', W', st⟩ := Jvm.RoadKit.stI X hx hZ eT A' (j := j) (x := x) (own_into r q1 q2) (g := mkF m pc Ls (.int x :: .int j :: .ref a :: rest)) rfl rfl hd
  exact ⟨T', h', X', e', W', OAL.same ⟨cl, A', r⟩ W', st⟩
theorem OAJ.stJ (X : Stand p l e R s m args below meth c T locs cells slots) (hx : p.tables.exec = Jvm.exec) (hZ : Z.Warmed39 s.vm) (eT : T.heap = h) (A : OAJ Z h a us) {j : Int32} {x : Int64} (q1 : ¬ j < 0) (q2 : j.toNatClampNeg < us.length) {pc : Nat} {Ls : Array Slot} {rest : List Value} (hd : decode c.code pc = .ok (.lastore, 1)) :
    ∃ T' h', Stand p l e R s m args below meth c T' (locs ++ [⟨a, j.toNatClampNeg⟩]) cells slots ∧ T'.heap = h' ∧ Wr h h' a j.toNatClampNeg (.long x) ∧ OAJ Z h' a (us.set j.toNatClampNeg x) ∧ ∀ t, Steps p.tables e below (T'.setTop (mkF m (pc + 1) Ls rest)) t → Steps p.tables e below (T.setTop (mkF m pc Ls (.long x :: .int j :: .ref a :: rest))) t := by
  obtain ⟨cl, A', r⟩ := A
  obtain ⟨T', h', X', e', W', st⟩ := Jvm.RoadKit.stJ X hx hZ eT A' (j := j) (x := x) (own_into r q1 q2) (g := mkF m pc Ls (.long x :: .int j :: .ref a :: rest)) rfl rfl hd
  exact ⟨T', h', X', e', W', OAJ.same ⟨cl, A', r⟩ W', st⟩
end Own
end Jvm.RoadKit
namespace Jvm.Pilot.@@N@@
open Jvm Jvm.ClassFile Sem Op Lib Jvm.Free Jvm.Stand Jvm.LawKit Jvm.RoadKit Bundle Jvm.Pilot.@@N@@.Jvm.D
def own_cells (r c : Int32) : Int32 := (r.toInt64 * c.toInt64).toInt32
theorem own_prod (r c : Int32) : (r.toInt64 * c.toInt64).toInt = r.toInt * c.toInt := by
  have r1 := r.toInt_lt; have r2 := r.le_toInt; have c1 := c.toInt_lt; have c2 := c.le_toInt
  have b1 : r.toInt * c.toInt ≤ 2 ^ 62 := by
    rcases Int.le_total 0 r.toInt with h | h <;> rcases Int.le_total 0 c.toInt with k | k
    · exact Int.le_trans (Int.mul_le_mul (show r.toInt ≤ 2 ^ 31 by omega) (show c.toInt ≤ 2 ^ 31 by omega) k (by decide)) (by decide)
    · have := Int.mul_nonpos_of_nonneg_of_nonpos h k; omega
    · have := Int.mul_nonpos_of_nonpos_of_nonneg h k; omega
    · have e : r.toInt * c.toInt = (-r.toInt) * (-c.toInt) := by rw [Int.neg_mul_neg]
      rw [e]
      exact Int.le_trans (Int.mul_le_mul (show -r.toInt ≤ 2 ^ 31 by omega) (show -c.toInt ≤ 2 ^ 31 by omega) (by omega) (by decide)) (by decide)
  have b2 : -(2 ^ 62) ≤ r.toInt * c.toInt := by
    rcases Int.le_total 0 r.toInt with h | h <;> rcases Int.le_total 0 c.toInt with k | k
    · have := Int.mul_nonneg h k; omega
    · have e : r.toInt * c.toInt = -(r.toInt * (-c.toInt)) := by rw [Int.mul_neg, Int.neg_neg]
      have : r.toInt * (-c.toInt) ≤ 2 ^ 31 * 2 ^ 31 := Int.mul_le_mul (show r.toInt ≤ 2 ^ 31 by omega) (show -c.toInt ≤ 2 ^ 31 by omega) (by omega) (by decide)
      rw [e]; omega
    · have e : r.toInt * c.toInt = -((-r.toInt) * c.toInt) := by rw [Int.neg_mul, Int.neg_neg]
      have : (-r.toInt) * c.toInt ≤ 2 ^ 31 * 2 ^ 31 := Int.mul_le_mul (show -r.toInt ≤ 2 ^ 31 by omega) (show c.toInt ≤ 2 ^ 31 by omega) (by omega) (by decide)
      rw [e]; omega
    · have := Int.mul_nonneg_of_nonpos_of_nonpos h k; omega
  have e1 := Jvm.Kit.i64_of_i32 r
  have e2 := Jvm.Kit.i64_of_i32 c
  rw [Jvm.Kit.i64_mul (by rw [e1, e2]; omega) (by rw [e1, e2]; omega), e1, e2]
/-- what goes into the calls -/
def own_ok (r c : Int32) : Prop := 0 ≤ r.toInt ∧ 0 ≤ c.toInt ∧ r.toInt * c.toInt ≤ 2147483647
theorem own_ok_comm {r c : Int32} (h : own_ok r c) : own_ok c r := ⟨h.2.1, h.1, by rw [Int.mul_comm]; exact h.2.2⟩
theorem own_le {r c : Int32} (h : own_ok r c) : ¬ (2147483647 : Int64) < r.toInt64 * c.toInt64 := by
  rw [Int64.lt_iff_toInt_lt, own_prod]
  have k : (2147483647 : Int64).toInt = 2147483647 := by decide
  have := h.2.2
  rw [k]; omega
theorem own_val {r c : Int32} (h : own_ok r c) : (own_cells r c).toInt = r.toInt * c.toInt := by
  have h0 := Int.mul_nonneg h.1 h.2.1
  have h1 := h.2.2
  show ((r.toInt64 * c.toInt64).toInt32).toInt = _
  rw [Jvm.Kit.i32_of_i64 (by rw [own_prod]; omega) (by rw [own_prod]; omega), own_prod]
theorem own_comm (r c : Int32) : own_cells r c = own_cells c r := by
  unfold own_cells; rw [Int64.mul_comm]
theorem own_ge {r c : Int32} (h : own_ok r c) : ¬ own_cells r c < 0 := by
  rw [Int32.lt_iff_toInt_lt, own_val h]
  have k : (0 : Int32).toInt = 0 := by decide
  have := Int.mul_nonneg h.1 h.2.1
  rw [k]; omega
theorem own_wide {r c : Int32} (h : own_ok r c) : (own_cells r c).toInt64 = r.toInt64 * c.toInt64 := by
  rw [← Int64.toInt_inj, Jvm.Kit.i64_of_i32, own_val h, own_prod]
theorem own_ne {c : Int32} (hc : ¬ c = 0) : c.toInt ≠ 0 := fun q => hc (by rw [← Int32.toInt_inj, q]; decide)
theorem own_div {r c : Int32} (h : own_ok r c) (hc : ¬ c = 0) : own_cells r c / c = r := by
  have h0 := own_ne hc
  have h2 := h.2.1
  rw [← Int32.toInt_inj, Jvm.Kit.i32_div (by intro q; omega), own_val h]
  exact Int.mul_tdiv_cancel _ h0
theorem own_rem {r c : Int32} (h : own_ok r c) (hc : ¬ c = 0) : own_cells r c % c = 0 := by
  rw [← Int32.toInt_inj, Jvm.Kit.i32_rem, own_val h]
  have k : (0 : Int32).toInt = 0 := by decide
  rw [k]; exact Int.mul_tmod_left _ _
theorem own_zero {r c : Int32} (h : own_ok r c) (hc : c = 0) : own_cells r c = 0 := by
  rw [← Int32.toInt_inj, own_val h, hc]
  have k : (0 : Int32).toInt = 0 := by decide
  rw [k, Int.mul_zero]
theorem own_mask (a : Int32) : 0 ≤ (a &&& 2147483647).toInt := by
  rw [Jvm.Kit.i32_mask a 2147483647 (k := 31) (by decide) (by decide)]; exact Int.emod_nonneg _ (by decide)
theorem own_j0 {r : Int32} (c : Int32) (hr : r = 0) (hc : 0 ≤ c.toInt) : own_ok r c := by
  have k : r.toInt = 0 := by rw [hr]; decide
  refine ⟨by omega, hc, ?_⟩
  rw [k, Int.zero_mul]; decide
theorem own_dv {r : Int32} (h : 0 ≤ r.toInt) (hr : ¬ r = 0) : ((2147483647 : Int64) / r.toInt64 + 1).toInt = 2147483647 / r.toInt + 1 := by
  have h0 := own_ne hr
  have k : (2147483647 : Int64).toInt = 2147483647 := by decide
  have k1 : (1 : Int64).toInt = 1 := by decide
  have e : ((2147483647 : Int64) / r.toInt64).toInt = 2147483647 / r.toInt := by
    rw [Jvm.Kit.i64_div (by rw [k]; intro q; omega), k, Jvm.Kit.i64_of_i32, Int.tdiv_eq_ediv_of_nonneg (by decide)]
  have b1 : (2147483647 : Int) / r.toInt ≤ 2147483647 := Int.ediv_le_self _ (by decide)
  have b2 : (0 : Int) ≤ 2147483647 / r.toInt := Int.ediv_nonneg (by decide) h
  rw [Jvm.Kit.i64_add (by rw [e, k1]; omega) (by rw [e, k1]; omega), e, k1]
theorem own_nz {r : Int32} (h : 0 ≤ r.toInt) (hr : ¬ r = 0) : (2147483647 : Int64) / r.toInt64 + 1 ≠ 0 := fun q => by
  have e := own_dv h hr
  rw [q] at e
  have k : (0 : Int64).toInt = 0 := by decide
  have b2 : (0 : Int) ≤ 2147483647 / r.toInt := Int.ediv_nonneg (by decide) h
  omega
theorem own_nzr {r : Int32} (hr : ¬ r = 0) : r.toInt64 ≠ 0 := fun q => by
  have h0 := own_ne hr
  have e := Jvm.Kit.i64_of_i32 r
  rw [q] at e
  have k : (0 : Int64).toInt = 0 := by decide
  omega
theorem own_j1 {r c : Int32} (h : 0 ≤ r.toInt) (hc : 0 ≤ c.toInt) (hr : ¬ r = 0) : own_ok r (c.toInt64 - ((c.toInt64 / ((2147483647 : Int64) / r.toInt64 + 1)) * ((2147483647 : Int64) / r.toInt64 + 1))).toInt32 := by
  have h0 := own_ne hr
  have e := Jvm.Kit.i64_rem_nonneg (x := c.toInt64) (y := (2147483647 : Int64) / r.toInt64 + 1) (by rw [Jvm.Kit.i64_of_i32]; exact hc)
  rw [own_dv h hr, Jvm.Kit.i64_of_i32] at e
  have b2 : (0 : Int) ≤ 2147483647 / r.toInt := Int.ediv_nonneg (by decide) h
  have b1 : (2147483647 : Int) / r.toInt ≤ 2147483647 := Int.ediv_le_self _ (by decide)
  have m1 := Int.emod_nonneg c.toInt (b := 2147483647 / r.toInt + 1) (by omega)
  have m2 := Int.emod_lt_of_pos c.toInt (b := 2147483647 / r.toInt + 1) (by omega)
  have f : ((c.toInt64 - ((c.toInt64 / ((2147483647 : Int64) / r.toInt64 + 1)) * ((2147483647 : Int64) / r.toInt64 + 1))).toInt32).toInt = c.toInt % (2147483647 / r.toInt + 1) := by
    rw [Jvm.Kit.i32_of_i64 (by rw [e]; omega) (by rw [e]; omega), e]
  refine ⟨h, by rw [f]; exact m1, ?_⟩
  rw [f]
  have b3 : c.toInt % (2147483647 / r.toInt + 1) ≤ 2147483647 / r.toInt := by omega
  exact Int.le_trans (Int.mul_le_mul_of_nonneg_left b3 h) (Int.mul_ediv_self_le h0)
theorem own_pn0 : plainName "com/example/slotwright/slotwright/solver/Tables" = true := by first | (simp [plainName, overriddenIn]; done) | decide +kernel
theorem ef_own_m1 (m : MethodId) (x0 : Int32) (x1 : Int32) : entryFrame m #[(.int x0), (.int x1)] 4 = mkF m 0 #[.val (.int x0), .val (.int x1), .unset, .unset] [] := by first | (simp [entryFrame, mkF, argsToLocals, Value.category]; done) | rfl
theorem d1_0 : decode prog_66_method_2_code 0 = .ok (.iload_n 0, 1) := by decide +kernel
theorem d1_1 : decode prog_66_method_2_code 1 = .ok (.i2l, 1) := by decide +kernel
theorem d1_2 : decode prog_66_method_2_code 2 = .ok (.iload_n 1, 1) := by decide +kernel
theorem d1_3 : decode prog_66_method_2_code 3 = .ok (.i2l, 1) := by decide +kernel
theorem d1_4 : decode prog_66_method_2_code 4 = .ok (.lmul, 1) := by decide +kernel
theorem d1_5 : decode prog_66_method_2_code 5 = .ok (.lstore_n 2, 1) := by decide +kernel
theorem d1_6 : decode prog_66_method_2_code 6 = .ok (.lload_n 2, 1) := by decide +kernel
theorem d1_7 : decode prog_66_method_2_code 7 = .ok (.ldc2_w 9, 3) := by decide +kernel
theorem d1_10 : decode prog_66_method_2_code 10 = .ok (.lcmp, 1) := by decide +kernel
theorem d1_11 : decode prog_66_method_2_code 11 = .ok (.ifCond .le 18, 3) := by decide +kernel
theorem d1_29 : decode prog_66_method_2_code 29 = .ok (.lload_n 2, 1) := by decide +kernel
theorem d1_30 : decode prog_66_method_2_code 30 = .ok (.l2i, 1) := by decide +kernel
theorem d1_31 : decode prog_66_method_2_code 31 = .ok (.ireturn, 1) := by decide +kernel
set_option maxRecDepth 65536 in
set_option maxHeartbeats 40000000 in
theorem own_m1 (l : Launch) (Z : State) (a0 : Array Value) (hw : ∀ d ∈ tables_1, d.before a0 Z = true) (ws : List Jvm.Cond) (vr vc : Int32) (h0 : Heap) (n0 : Nat) (Z0 : n0 ≤ h0.size) (hok : own_ok vr vc) :
    MetFree l (⟨"com/example/slotwright/slotwright/solver/Tables", "cells", "(II)I"⟩ : MethodName) (head1 (Jvm.Cond.code (⟨"com/example/slotwright/slotwright/solver/Tables", "cells", "(II)I"⟩ : MethodName) prog_66_method_2_code 4 (some .int) :: ws) ({ frames := 0, cells := 0, slots := 0, locals := 0 } : Room)) (fun a U => a = #[(.int vr), (.int vc)] ∧ Z.Warmed39 U.vm ∧ U.heap = h0) (fun _ _ _ _ _ => True) (fun _ U o U' => ∃ v L, o = .returned v ∧ (OPure n0 h0 (some (.int (own_cells vr vc)))) v U'.heap L ∧ FrameEnd U o U' L ({ frames := 0, cells := 0, slots := 0, locals := 0 } : Room).cells ({ frames := 0, cells := 0, slots := 0, locals := 0 } : Room).slots) := by
  refine MetFree.of_bodySF (plainFor_of_name own_pn0) hisR ?_
  intro p e s m args below meth c s₁ Bd hml0 hP hK
  obtain ⟨rfl, hZ, hh⟩ := hP
  have hx := Bd.exec
  have hby := Bd.bytes
  have hret := Bd.returns
  have hlk : meth.locks = false := Bd.notSynchronized
  have hml : c.maxLocals = 4 := hml0
  have hown : s.vm.findClass "com/example/slotwright/slotwright/solver/Tables" = some m.cls := findClass_of_methodNamed Bd.named
  have hnm := (name_of_methodNamed Bd.named Bd.method).1
  have X0 : Stand p l e ({ frames := 0, cells := 0, slots := 0, locals := 0 } : Room) s m #[(.int vr), (.int vc)] below meth c s₁ [] 0 0 := Stand.of_body Bd
  have e0 : s₁.heap = h0 := by rw [← hh, Bd.state]; rfl
  have N0 := Fr.nil n0
  have pre0 : ∀ t, Steps p.tables e below (s₁.setTop (mkF m 0 #[.val (.int vr), .val (.int vc), .unset, .unset] [])) t → Steps p.tables e below (s₁.setTop (entryFrame m #[(.int vr), (.int vc)] 4)) t := fun t k => castTop (ef_own_m1 m vr vc) k
  show OGo p e below s (OPure n0 h0 (some (.int (own_cells vr vc)))) ({ frames := 0, cells := 0, slots := 0, locals := 0 } : Room).cells ({ frames := 0, cells := 0, slots := 0, locals := 0 } : Room).slots (s₁.setTop (entryFrame m #[(.int vr), (.int vc)] 4))
  refine OGo.on pre0 ?_
  show OGo p e below s _ _ _ (s₁.setTop (mkF m 0 #[.val (.int vr), .val (.int vc), .unset, .unset] []))
  refine OGo.on (fun t k => XS.iloadN X0.here hx rfl (hb hby d1_0) rfl k) ?_
  show OGo p e below s _ _ _ (s₁.setTop (mkF m 1 #[.val (.int vr), .val (.int vc), .unset, .unset] [(.int vr)]))
  refine OGo.on (fun t k => XS.i2l X0.here hx rfl (hb hby d1_1) rfl k) ?_
  show OGo p e below s _ _ _ (s₁.setTop (mkF m 2 #[.val (.int vr), .val (.int vc), .unset, .unset] [(.long (vr.toInt64))]))
  refine OGo.on (fun t k => XS.iloadN X0.here hx rfl (hb hby d1_2) rfl k) ?_
  show OGo p e below s _ _ _ (s₁.setTop (mkF m 3 #[.val (.int vr), .val (.int vc), .unset, .unset] [(.int vc), (.long (vr.toInt64))]))
  refine OGo.on (fun t k => XS.i2l X0.here hx rfl (hb hby d1_3) rfl k) ?_
  show OGo p e below s _ _ _ (s₁.setTop (mkF m 4 #[.val (.int vr), .val (.int vc), .unset, .unset] [(.long (vc.toInt64)), (.long (vr.toInt64))]))
  refine OGo.on (fun t k => XS.lmul X0.here hx rfl (hb hby d1_4) rfl k) ?_
  show OGo p e below s _ _ _ (s₁.setTop (mkF m 5 #[.val (.int vr), .val (.int vc), .unset, .unset] [(.long ((vr.toInt64) * (vc.toInt64)))]))
  refine OGo.on (fun t k => XS.lstoreN X0.here hx rfl (hb hby d1_5) rfl (l' := #[.val (.int vr), .val (.int vc), .val (.long ((vr.toInt64) * (vc.toInt64))), .second]) rfl k) ?_
  show OGo p e below s _ _ _ (s₁.setTop (mkF m 6 #[.val (.int vr), .val (.int vc), .val (.long ((vr.toInt64) * (vc.toInt64))), .second] []))
  refine OGo.on (fun t k => XS.lloadN X0.here hx rfl (hb hby d1_6) rfl k) ?_
  show OGo p e below s _ _ _ (s₁.setTop (mkF m 7 #[.val (.int vr), .val (.int vc), .val (.long ((vr.toInt64) * (vc.toInt64))), .second] [(.long ((vr.toInt64) * (vc.toInt64)))]))
  refine OGo.on (fun t k => X0.ldc2J hx hown (mvT hZ (hw _ (List.mem_of_getElem? (i := 5) rfl))) (g := (mkF m 7 #[.val (.int vr), .val (.int vc), .val (.long ((vr.toInt64) * (vc.toInt64))), .second] [(.long ((vr.toInt64) * (vc.toInt64)))])) rfl (hb hby d1_7) k) ?_
  show OGo p e below s _ _ _ (s₁.setTop (mkF m 10 #[.val (.int vr), .val (.int vc), .val (.long ((vr.toInt64) * (vc.toInt64))), .second] [(.long (2147483647 : Int64)), (.long ((vr.toInt64) * (vc.toInt64)))]))
  refine OGo.on (fun t k => XS.lcmp X0.here hx rfl (hb hby d1_10) rfl k) ?_
  show OGo p e below s _ _ _ (s₁.setTop (mkF m 11 #[.val (.int vr), .val (.int vc), .val (.long ((vr.toInt64) * (vc.toInt64))), .second] [(.int (lcmpW ((vr.toInt64) * (vc.toInt64)) (2147483647 : Int64)))]))
  refine OGo.on (fun t k => XS.ifYes X0.here hx rfl (pc0 := 11) (pc' := 29) rfl (hb hby d1_11) rfl (lc_flt (own_le hok)).2.2.2 (by decide) (by decide) k) ?_
  show OGo p e below s _ _ _ (s₁.setTop (mkF m 29 #[.val (.int vr), .val (.int vc), .val (.long ((vr.toInt64) * (vc.toInt64))), .second] []))
  refine OGo.on (fun t k => XS.lloadN X0.here hx rfl (hb hby d1_29) rfl k) ?_
  show OGo p e below s _ _ _ (s₁.setTop (mkF m 30 #[.val (.int vr), .val (.int vc), .val (.long ((vr.toInt64) * (vc.toInt64))), .second] [(.long ((vr.toInt64) * (vc.toInt64)))]))
  refine OGo.on (fun t k => XS.l2i X0.here hx rfl (hb hby d1_30) rfl k) ?_
  show OGo p e below s _ _ _ (s₁.setTop (mkF m 31 #[.val (.int vr), .val (.int vc), .val (.long ((vr.toInt64) * (vc.toInt64))), .second] [(.int (((vr.toInt64) * (vc.toInt64)).toInt32))]))
  exact OGo.retI X0 hx hret hlk (hb hby d1_31) (opI rfl N0 e0) (by decide) (by decide)
theorem own_pn1 : plainName "com/example/slotwright/slotwright/solver/TablesCellsPinLaw" = true := by first | (simp [plainName, overriddenIn]; done) | decide +kernel
theorem own_pd0 : parseMethodDescriptor "(II)I" = some ⟨[.int, .int], some .int⟩ := by decide +kernel
theorem ef_own_law (m : MethodId) (x0 : Int32) (x1 : Int32) : entryFrame m #[(.int x0), (.int x1)] maxLocals = mkF m 0 #[.val (.int x0), .val (.int x1), .unset, .unset, .unset, .unset, .unset] [] := by first | (simp [entryFrame, mkF, argsToLocals, Value.category, maxLocals]; done) | rfl
set_option maxRecDepth 65536 in
set_option maxHeartbeats 40000000 in
theorem own_law (l : Launch) (Z : State) (a0 : Array Value) (hw : ∀ d ∈ tables_1, d.before a0 Z = true) (ws : List Jvm.Cond) (va vb : Int32) (h0 : Heap) (n0 : Nat) (Z0 : n0 ≤ h0.size)  :
    MetFree l x (head1 (Jvm.Cond.code x code maxLocals ret :: ws) room_1) (fun a U => a = #[(.int va), (.int vb)] ∧ Z.Warmed39 U.vm ∧ U.heap = h0) (fun _ _ _ _ _ => True) (fun _ U o U' => ∃ v L, o = .returned v ∧ (fun v h L => v = some (.int 1) ∧ Fr n0 L) v U'.heap L ∧ FrameEnd U o U' L 0 0) := by
  refine MetFree.of_bodySF (plainFor_of_name own_pn1) hisR ?_
  intro p e s m args below meth c s₁ Bd hml0 hP hK
  obtain ⟨rfl, hZ, hh⟩ := hP
  have hx := Bd.exec
  have hby := Bd.bytes
  have hret := Bd.returns
  have hlk : meth.locks = false := Bd.notSynchronized
  have hml : c.maxLocals = 7 := hml0
  have hown : s.vm.findClass "com/example/slotwright/slotwright/solver/TablesCellsPinLaw" = some m.cls := findClass_of_methodNamed Bd.named
  have hnm := (name_of_methodNamed Bd.named Bd.method).1
  have X0 : Stand p l e room_1 s m #[(.int va), (.int vb)] below meth c s₁ [] 0 0 := Stand.of_body Bd
  have e0 : s₁.heap = h0 := by rw [← hh, Bd.state]; rfl
  have N0 := Fr.nil n0
  have pre0 : ∀ t, Steps p.tables e below (s₁.setTop (mkF m 0 #[.val (.int va), .val (.int vb), .unset, .unset, .unset, .unset, .unset] [])) t → Steps p.tables e below (s₁.setTop (entryFrame m #[(.int va), (.int vb)] maxLocals)) t := fun t k => castTop (ef_own_law m va vb) k
  show OGo p e below s (fun v h L => v = some (.int 1) ∧ Fr n0 L) 0 0 (s₁.setTop (entryFrame m #[(.int va), (.int vb)] maxLocals))
  refine OGo.on pre0 ?_
  show OGo p e below s _ _ _ (s₁.setTop (mkF m 0 #[.val (.int va), .val (.int vb), .unset, .unset, .unset, .unset, .unset] []))
  refine OGo.on (fun t k => XS.iloadN X0.here hx rfl (hb hby at_0) rfl k) ?_
  show OGo p e below s _ _ _ (s₁.setTop (mkF m 1 #[.val (.int va), .val (.int vb), .unset, .unset, .unset, .unset, .unset] [(.int va)]))
  refine OGo.on (fun t k => X0.ldcI hx hown (mvT hZ (hw _ (List.mem_of_getElem? (i := 0) rfl))) (g := (mkF m 1 #[.val (.int va), .val (.int vb), .unset, .unset, .unset, .unset, .unset] [(.int va)])) rfl (hb hby at_1) k) ?_
  show OGo p e below s _ _ _ (s₁.setTop (mkF m 3 #[.val (.int va), .val (.int vb), .unset, .unset, .unset, .unset, .unset] [(.int (2147483647 : Int32)), (.int va)]))
  refine OGo.on (fun t k => XS.iand X0.here hx rfl (hb hby at_3) rfl k) ?_
  show OGo p e below s _ _ _ (s₁.setTop (mkF m 4 #[.val (.int va), .val (.int vb), .unset, .unset, .unset, .unset, .unset] [(.int (va &&& (2147483647 : Int32)))]))
  refine OGo.on (fun t k => XS.istoreN X0.here hx rfl (hb hby at_4) rfl (l' := #[.val (.int va), .val (.int vb), .val (.int (va &&& (2147483647 : Int32))), .unset, .unset, .unset, .unset]) rfl k) ?_
  show OGo p e below s _ _ _ (s₁.setTop (mkF m 5 #[.val (.int va), .val (.int vb), .val (.int (va &&& (2147483647 : Int32))), .unset, .unset, .unset, .unset] []))
  generalize hv_vr : (va &&& (2147483647 : Int32)) = vr
  show OGo p e below s _ _ _ (s₁.setTop (mkF m 5 #[.val (.int va), .val (.int vb), .val (.int vr), .unset, .unset, .unset, .unset] []))
  refine OGo.on (fun t k => XS.iloadN X0.here hx rfl (hb hby at_5) rfl k) ?_
  show OGo p e below s _ _ _ (s₁.setTop (mkF m 6 #[.val (.int va), .val (.int vb), .val (.int vr), .unset, .unset, .unset, .unset] [(.int vb)]))
  refine OGo.on (fun t k => X0.ldcI hx hown (mvT hZ (hw _ (List.mem_of_getElem? (i := 0) rfl))) (g := (mkF m 6 #[.val (.int va), .val (.int vb), .val (.int vr), .unset, .unset, .unset, .unset] [(.int vb)])) rfl (hb hby at_6) k) ?_
  show OGo p e below s _ _ _ (s₁.setTop (mkF m 8 #[.val (.int va), .val (.int vb), .val (.int vr), .unset, .unset, .unset, .unset] [(.int (2147483647 : Int32)), (.int vb)]))
  refine OGo.on (fun t k => XS.iand X0.here hx rfl (hb hby at_8) rfl k) ?_
  show OGo p e below s _ _ _ (s₁.setTop (mkF m 9 #[.val (.int va), .val (.int vb), .val (.int vr), .unset, .unset, .unset, .unset] [(.int (vb &&& (2147483647 : Int32)))]))
  refine OGo.on (fun t k => XS.istoreN X0.here hx rfl (hb hby at_9) rfl (l' := #[.val (.int va), .val (.int vb), .val (.int vr), .val (.int (vb &&& (2147483647 : Int32))), .unset, .unset, .unset]) rfl k) ?_
  show OGo p e below s _ _ _ (s₁.setTop (mkF m 10 #[.val (.int va), .val (.int vb), .val (.int vr), .val (.int (vb &&& (2147483647 : Int32))), .unset, .unset, .unset] []))
  generalize hv_vc0 : (vb &&& (2147483647 : Int32)) = vc0
  show OGo p e below s _ _ _ (s₁.setTop (mkF m 10 #[.val (.int va), .val (.int vb), .val (.int vr), .val (.int vc0), .unset, .unset, .unset] []))
  have hr0 : 0 ≤ vr.toInt := by rw [← hv_vr]; exact own_mask _
  have hc0 : 0 ≤ vc0.toInt := by rw [← hv_vc0]; exact own_mask _
  have J : ∀ (vc : Int32), own_ok vr vc → OGo p e below s (fun v h L => v = some (.int 1) ∧ Fr n0 L) 0 0 (s₁.setTop (mkF m 34 #[.val (.int va), .val (.int vb), .val (.int vr), .val (.int vc0), .val (.int vc), .unset, .unset] [])) := by
    intro vc hok
    show OGo p e below s _ _ _ (s₁.setTop (mkF m 34 #[.val (.int va), .val (.int vb), .val (.int vr), .val (.int vc0), .val (.int vc), .unset, .unset] []))
    refine OGo.on (fun t k => XS.iloadN X0.here hx rfl (hb hby at_34) rfl k) ?_
    show OGo p e below s _ _ _ (s₁.setTop (mkF m 35 #[.val (.int va), .val (.int vb), .val (.int vr), .val (.int vc0), .val (.int vc), .unset, .unset] [(.int vr)]))
    refine OGo.on (fun t k => XS.iload X0.here hx rfl (hb hby at_35) rfl k) ?_
    show OGo p e below s _ _ _ (s₁.setTop (mkF m 37 #[.val (.int va), .val (.int vb), .val (.int vr), .val (.int vc0), .val (.int vc), .unset, .unset] [(.int vc), (.int vr)]))
    obtain ⟨_, _, ⟨T1, L1, k1, n1⟩, -, X1, ⟨Lc1, hQ1, l1, y1, z1⟩, st1⟩ := Jvm.LawKit.callS X0 hx (y := (⟨"com/example/slotwright/slotwright/solver/Tables", "cells", "(II)I"⟩ : MethodName)) hown (mvT hZ (hw _ (List.mem_of_getElem? (i := 1) rfl))) (mvT hZ (hw _ (List.mem_of_getElem? (i := 2) rfl))) (mvT hZ (hw _ (List.mem_of_getElem? (i := 3) rfl))) (mvT hZ (hw _ (List.mem_of_getElem? (i := 4) rfl))) (by decide) (backOf (W := 0) (own_m1 l Z a0 hw [] vr vc h0 n0 (by assumption) hok) hZ (hw _ (List.mem_of_getElem? (i := 4) rfl)) (hw _ (List.mem_of_getElem? (i := 3) rfl)) (by decide) (by decide)) (g := (mkF m 37 #[.val (.int va), .val (.int vb), .val (.int vr), .val (.int vc0), .val (.int vc), .unset, .unset] [(.int vc), (.int vr)])) rfl (by rw [hml]; rfl) (argsL := [(.int vr), (.int vc)]) (rest := []) (lenOf own_pd0 rfl) rfl (by show 2 * 0 + _ ≤ _; exact Nat.le_of_eq rfl) (hb hby at_37) (fun _ _ => ⟨rfl, e0, (by decide : 0 + 0 ≤ _), (by decide : 0 + 0 ≤ _)⟩)
    dsimp only [Pt.U, Pt.locs, Pt.cells, Pt.slots] at X1 l1 y1 z1 st1 hQ1
    subst l1 y1 z1
    obtain ⟨rfl, N1q, e1⟩ := hQ1
    have N1 := Fr.app N0 N1q
    refine OGo.on st1 ?_
    show OGo p e below s _ _ _ (T1.setTop (mkF m 40 #[.val (.int va), .val (.int vb), .val (.int vr), .val (.int vc0), .val (.int vc), .unset, .unset] [(.int (own_cells vr vc))]))
    refine OGo.on (fun t k => XS.istore X1.here hx rfl (hb hby at_40) rfl (l' := #[.val (.int va), .val (.int vb), .val (.int vr), .val (.int vc0), .val (.int vc), .val (.int (own_cells vr vc)), .unset]) rfl k) ?_
    show OGo p e below s _ _ _ (T1.setTop (mkF m 42 #[.val (.int va), .val (.int vb), .val (.int vr), .val (.int vc0), .val (.int vc), .val (.int (own_cells vr vc)), .unset] []))
    refine OGo.on (fun t k => XS.iload X1.here hx rfl (hb hby at_42) rfl k) ?_
    show OGo p e below s _ _ _ (T1.setTop (mkF m 44 #[.val (.int va), .val (.int vb), .val (.int vr), .val (.int vc0), .val (.int vc), .val (.int (own_cells vr vc)), .unset] [(.int vc)]))
    refine OGo.on (fun t k => XS.iloadN X1.here hx rfl (hb hby at_44) rfl k) ?_
    show OGo p e below s _ _ _ (T1.setTop (mkF m 45 #[.val (.int va), .val (.int vb), .val (.int vr), .val (.int vc0), .val (.int vc), .val (.int (own_cells vr vc)), .unset] [(.int vr), (.int vc)]))
    obtain ⟨_, _, ⟨T2, L2, k2, n2⟩, -, X2, ⟨Lc2, hQ2, l2, y2, z2⟩, st2⟩ := Jvm.LawKit.callS X1 hx (y := (⟨"com/example/slotwright/slotwright/solver/Tables", "cells", "(II)I"⟩ : MethodName)) hown (mvT hZ (hw _ (List.mem_of_getElem? (i := 1) rfl))) (mvT hZ (hw _ (List.mem_of_getElem? (i := 2) rfl))) (mvT hZ (hw _ (List.mem_of_getElem? (i := 3) rfl))) (mvT hZ (hw _ (List.mem_of_getElem? (i := 4) rfl))) (by decide) (backOf (W := 0) (own_m1 l Z a0 hw [] vc vr h0 n0 (by assumption) (own_ok_comm hok)) hZ (hw _ (List.mem_of_getElem? (i := 4) rfl)) (hw _ (List.mem_of_getElem? (i := 3) rfl)) (by decide) (by decide)) (g := (mkF m 45 #[.val (.int va), .val (.int vb), .val (.int vr), .val (.int vc0), .val (.int vc), .val (.int (own_cells vr vc)), .unset] [(.int vr), (.int vc)])) rfl (by rw [hml]; rfl) (argsL := [(.int vc), (.int vr)]) (rest := []) (lenOf own_pd0 rfl) rfl (by show 2 * 0 + _ ≤ _; exact Nat.le_of_eq rfl) (hb hby at_45) (fun _ _ => ⟨rfl, e1, (by decide : 0 + 0 ≤ _), (by decide : 0 + 0 ≤ _)⟩)
    dsimp only [Pt.U, Pt.locs, Pt.cells, Pt.slots] at X2 l2 y2 z2 st2 hQ2
    subst l2 y2 z2
    obtain ⟨rfl, N2q, e2⟩ := hQ2
    have N2 := Fr.app N1 N2q
    refine OGo.on st2 ?_
    show OGo p e below s _ _ _ (T2.setTop (mkF m 48 #[.val (.int va), .val (.int vb), .val (.int vr), .val (.int vc0), .val (.int vc), .val (.int (own_cells vr vc)), .unset] [(.int (own_cells vc vr))]))
    refine OGo.on (fun t k => XS.istore X2.here hx rfl (hb hby at_48) rfl (l' := #[.val (.int va), .val (.int vb), .val (.int vr), .val (.int vc0), .val (.int vc), .val (.int (own_cells vr vc)), .val (.int (own_cells vc vr))]) rfl k) ?_
    show OGo p e below s _ _ _ (T2.setTop (mkF m 50 #[.val (.int va), .val (.int vb), .val (.int vr), .val (.int vc0), .val (.int vc), .val (.int (own_cells vr vc)), .val (.int (own_cells vc vr))] []))
    refine OGo.on (fun t k => XS.iload X2.here hx rfl (hb hby at_50) rfl k) ?_
    show OGo p e below s _ _ _ (T2.setTop (mkF m 52 #[.val (.int va), .val (.int vb), .val (.int vr), .val (.int vc0), .val (.int vc), .val (.int (own_cells vr vc)), .val (.int (own_cells vc vr))] [(.int (own_cells vr vc))]))
    refine OGo.on (fun t k => XS.iload X2.here hx rfl (hb hby at_52) rfl k) ?_
    show OGo p e below s _ _ _ (T2.setTop (mkF m 54 #[.val (.int va), .val (.int vb), .val (.int vr), .val (.int vc0), .val (.int vc), .val (.int (own_cells vr vc)), .val (.int (own_cells vc vr))] [(.int (own_cells vc vr)), (.int (own_cells vr vc))]))
    refine OGo.on (fun t k => XS.icmpYes X2.here hx rfl (pc0 := 54) (pc' := 59) rfl (hb hby at_54) rfl (teq (own_comm vr vc)).1 (by decide) (by decide) k) ?_
    show OGo p e below s _ _ _ (T2.setTop (mkF m 59 #[.val (.int va), .val (.int vb), .val (.int vr), .val (.int vc0), .val (.int vc), .val (.int (own_cells vr vc)), .val (.int (own_cells vc vr))] []))
    refine OGo.on (fun t k => XS.iload X2.here hx rfl (hb hby at_59) rfl k) ?_
    show OGo p e below s _ _ _ (T2.setTop (mkF m 61 #[.val (.int va), .val (.int vb), .val (.int vr), .val (.int vc0), .val (.int vc), .val (.int (own_cells vr vc)), .val (.int (own_cells vc vr))] [(.int (own_cells vr vc))]))
    refine OGo.on (fun t k => XS.ifYes X2.here hx rfl (pc0 := 61) (pc' := 66) rfl (hb hby at_61) rfl ((if0 _ _).trans (flt (own_ge hok)).2.1) (by decide) (by decide) k) ?_
    show OGo p e below s _ _ _ (T2.setTop (mkF m 66 #[.val (.int va), .val (.int vb), .val (.int vr), .val (.int vc0), .val (.int vc), .val (.int (own_cells vr vc)), .val (.int (own_cells vc vr))] []))
    refine OGo.on (fun t k => XS.iload X2.here hx rfl (hb hby at_66) rfl k) ?_
    show OGo p e below s _ _ _ (T2.setTop (mkF m 68 #[.val (.int va), .val (.int vb), .val (.int vr), .val (.int vc0), .val (.int vc), .val (.int (own_cells vr vc)), .val (.int (own_cells vc vr))] [(.int (own_cells vr vc))]))
    refine OGo.on (fun t k => XS.i2l X2.here hx rfl (hb hby at_68) rfl k) ?_
    show OGo p e below s _ _ _ (T2.setTop (mkF m 69 #[.val (.int va), .val (.int vb), .val (.int vr), .val (.int vc0), .val (.int vc), .val (.int (own_cells vr vc)), .val (.int (own_cells vc vr))] [(.long ((own_cells vr vc).toInt64))]))
    refine OGo.on (fun t k => XS.iloadN X2.here hx rfl (hb hby at_69) rfl k) ?_
    show OGo p e below s _ _ _ (T2.setTop (mkF m 70 #[.val (.int va), .val (.int vb), .val (.int vr), .val (.int vc0), .val (.int vc), .val (.int (own_cells vr vc)), .val (.int (own_cells vc vr))] [(.int vr), (.long ((own_cells vr vc).toInt64))]))
    refine OGo.on (fun t k => XS.i2l X2.here hx rfl (hb hby at_70) rfl k) ?_
    show OGo p e below s _ _ _ (T2.setTop (mkF m 71 #[.val (.int va), .val (.int vb), .val (.int vr), .val (.int vc0), .val (.int vc), .val (.int (own_cells vr vc)), .val (.int (own_cells vc vr))] [(.long (vr.toInt64)), (.long ((own_cells vr vc).toInt64))]))
    refine OGo.on (fun t k => XS.iload X2.here hx rfl (hb hby at_71) rfl k) ?_
    show OGo p e below s _ _ _ (T2.setTop (mkF m 73 #[.val (.int va), .val (.int vb), .val (.int vr), .val (.int vc0), .val (.int vc), .val (.int (own_cells vr vc)), .val (.int (own_cells vc vr))] [(.int vc), (.long (vr.toInt64)), (.long ((own_cells vr vc).toInt64))]))
    refine OGo.on (fun t k => XS.i2l X2.here hx rfl (hb hby at_73) rfl k) ?_
    show OGo p e below s _ _ _ (T2.setTop (mkF m 74 #[.val (.int va), .val (.int vb), .val (.int vr), .val (.int vc0), .val (.int vc), .val (.int (own_cells vr vc)), .val (.int (own_cells vc vr))] [(.long (vc.toInt64)), (.long (vr.toInt64)), (.long ((own_cells vr vc).toInt64))]))
    refine OGo.on (fun t k => XS.lmul X2.here hx rfl (hb hby at_74) rfl k) ?_
    show OGo p e below s _ _ _ (T2.setTop (mkF m 75 #[.val (.int va), .val (.int vb), .val (.int vr), .val (.int vc0), .val (.int vc), .val (.int (own_cells vr vc)), .val (.int (own_cells vc vr))] [(.long ((vr.toInt64) * (vc.toInt64))), (.long ((own_cells vr vc).toInt64))]))
    refine OGo.on (fun t k => XS.lcmp X2.here hx rfl (hb hby at_75) rfl k) ?_
    show OGo p e below s _ _ _ (T2.setTop (mkF m 76 #[.val (.int va), .val (.int vb), .val (.int vr), .val (.int vc0), .val (.int vc), .val (.int (own_cells vr vc)), .val (.int (own_cells vc vr))] [(.int (lcmpW ((own_cells vr vc).toInt64) ((vr.toInt64) * (vc.toInt64))))]))
    refine OGo.on (fun t k => XS.ifYes X2.here hx rfl (pc0 := 76) (pc' := 81) rfl (hb hby at_76) rfl (lc_teq (own_wide hok)).1 (by decide) (by decide) k) ?_
    show OGo p e below s _ _ _ (T2.setTop (mkF m 81 #[.val (.int va), .val (.int vb), .val (.int vr), .val (.int vc0), .val (.int vc), .val (.int (own_cells vr vc)), .val (.int (own_cells vc vr))] []))
    refine OGo.on (fun t k => XS.iload X2.here hx rfl (hb hby at_81) rfl k) ?_
    show OGo p e below s _ _ _ (T2.setTop (mkF m 83 #[.val (.int va), .val (.int vb), .val (.int vr), .val (.int vc0), .val (.int vc), .val (.int (own_cells vr vc)), .val (.int (own_cells vc vr))] [(.int vc)]))
    by_cases hc3 : vc = (0 : Int32)
    · refine OGo.on (fun t k => XS.ifYes X2.here hx rfl (pc0 := 83) (pc' := 107) rfl (hb hby at_83) rfl ((if0 _ _).trans (teq hc3).1) (by decide) (by decide) k) ?_
      show OGo p e below s _ _ _ (T2.setTop (mkF m 107 #[.val (.int va), .val (.int vb), .val (.int vr), .val (.int vc0), .val (.int vc), .val (.int (own_cells vr vc)), .val (.int (own_cells vc vr))] []))
      refine OGo.on (fun t k => XS.iload X2.here hx rfl (hb hby at_107) rfl k) ?_
      show OGo p e below s _ _ _ (T2.setTop (mkF m 109 #[.val (.int va), .val (.int vb), .val (.int vr), .val (.int vc0), .val (.int vc), .val (.int (own_cells vr vc)), .val (.int (own_cells vc vr))] [(.int (own_cells vr vc))]))
      refine OGo.on (fun t k => XS.ifYes X2.here hx rfl (pc0 := 109) (pc' := 114) rfl (hb hby at_109) rfl ((if0 _ _).trans (teq (own_zero hok (by assumption))).1) (by decide) (by decide) k) ?_
      show OGo p e below s _ _ _ (T2.setTop (mkF m 114 #[.val (.int va), .val (.int vb), .val (.int vr), .val (.int vc0), .val (.int vc), .val (.int (own_cells vr vc)), .val (.int (own_cells vc vr))] []))
      refine OGo.on (fun t k => XS.iconst X2.here hx rfl (hb hby at_114) k) ?_
      show OGo p e below s _ _ _ (T2.setTop (mkF m 115 #[.val (.int va), .val (.int vb), .val (.int vr), .val (.int vc0), .val (.int vc), .val (.int (own_cells vr vc)), .val (.int (own_cells vc vr))] [(.int (1 : Int32))]))
      exact OGo.retN X2 hx (t := .boolean) hret hlk (by simp) (hb hby at_115) ⟨rfl, N2⟩ (by decide) (by decide)
    · refine OGo.on (fun t k => XS.ifNo X2.here hx rfl (hb hby at_83) rfl ((if0 _ _).trans (feq hc3).1) k) ?_
      show OGo p e below s _ _ _ (T2.setTop (mkF m 86 #[.val (.int va), .val (.int vb), .val (.int vr), .val (.int vc0), .val (.int vc), .val (.int (own_cells vr vc)), .val (.int (own_cells vc vr))] []))
      refine OGo.on (fun t k => XS.iload X2.here hx rfl (hb hby at_86) rfl k) ?_
      show OGo p e below s _ _ _ (T2.setTop (mkF m 88 #[.val (.int va), .val (.int vb), .val (.int vr), .val (.int vc0), .val (.int vc), .val (.int (own_cells vr vc)), .val (.int (own_cells vc vr))] [(.int (own_cells vr vc))]))
      refine OGo.on (fun t k => XS.iload X2.here hx rfl (hb hby at_88) rfl k) ?_
      show OGo p e below s _ _ _ (T2.setTop (mkF m 90 #[.val (.int va), .val (.int vb), .val (.int vr), .val (.int vc0), .val (.int vc), .val (.int (own_cells vr vc)), .val (.int (own_cells vc vr))] [(.int vc), (.int (own_cells vr vc))]))
      refine OGo.on (fun t k => XS.idiv X2.here hx rfl (hb hby at_90) rfl (by assumption) k) ?_
      show OGo p e below s _ _ _ (T2.setTop (mkF m 91 #[.val (.int va), .val (.int vb), .val (.int vr), .val (.int vc0), .val (.int vc), .val (.int (own_cells vr vc)), .val (.int (own_cells vc vr))] [(.int ((own_cells vr vc) / vc))]))
      refine OGo.on (fun t k => XS.iloadN X2.here hx rfl (hb hby at_91) rfl k) ?_
      show OGo p e below s _ _ _ (T2.setTop (mkF m 92 #[.val (.int va), .val (.int vb), .val (.int vr), .val (.int vc0), .val (.int vc), .val (.int (own_cells vr vc)), .val (.int (own_cells vc vr))] [(.int vr), (.int ((own_cells vr vc) / vc))]))
      refine OGo.on (fun t k => XS.icmpYes X2.here hx rfl (pc0 := 92) (pc' := 97) rfl (hb hby at_92) rfl (teq (own_div hok (by assumption))).1 (by decide) (by decide) k) ?_
      show OGo p e below s _ _ _ (T2.setTop (mkF m 97 #[.val (.int va), .val (.int vb), .val (.int vr), .val (.int vc0), .val (.int vc), .val (.int (own_cells vr vc)), .val (.int (own_cells vc vr))] []))
      refine OGo.on (fun t k => XS.iload X2.here hx rfl (hb hby at_97) rfl k) ?_
      show OGo p e below s _ _ _ (T2.setTop (mkF m 99 #[.val (.int va), .val (.int vb), .val (.int vr), .val (.int vc0), .val (.int vc), .val (.int (own_cells vr vc)), .val (.int (own_cells vc vr))] [(.int (own_cells vr vc))]))
      refine OGo.on (fun t k => XS.iload X2.here hx rfl (hb hby at_99) rfl k) ?_
      show OGo p e below s _ _ _ (T2.setTop (mkF m 101 #[.val (.int va), .val (.int vb), .val (.int vr), .val (.int vc0), .val (.int vc), .val (.int (own_cells vr vc)), .val (.int (own_cells vc vr))] [(.int vc), (.int (own_cells vr vc))]))
      refine OGo.on (fun t k => iremM X2 hx rfl (hb hby at_101) rfl (by assumption) k) ?_
      show OGo p e below s _ _ _ (T2.setTop (mkF m 102 #[.val (.int va), .val (.int vb), .val (.int vr), .val (.int vc0), .val (.int vc), .val (.int (own_cells vr vc)), .val (.int (own_cells vc vr))] [(.int ((own_cells vr vc) % vc))]))
      refine OGo.on (fun t k => XS.ifYes X2.here hx rfl (pc0 := 102) (pc' := 114) rfl (hb hby at_102) rfl ((if0 _ _).trans (teq (own_rem hok (by assumption))).1) (by decide) (by decide) k) ?_
      show OGo p e below s _ _ _ (T2.setTop (mkF m 114 #[.val (.int va), .val (.int vb), .val (.int vr), .val (.int vc0), .val (.int vc), .val (.int (own_cells vr vc)), .val (.int (own_cells vc vr))] []))
      refine OGo.on (fun t k => XS.iconst X2.here hx rfl (hb hby at_114) k) ?_
      show OGo p e below s _ _ _ (T2.setTop (mkF m 115 #[.val (.int va), .val (.int vb), .val (.int vr), .val (.int vc0), .val (.int vc), .val (.int (own_cells vr vc)), .val (.int (own_cells vc vr))] [(.int (1 : Int32))]))
      exact OGo.retN X2 hx (t := .boolean) hret hlk (by simp) (hb hby at_115) ⟨rfl, N2⟩ (by decide) (by decide)
  refine OGo.on (fun t k => XS.iloadN X0.here hx rfl (hb hby at_10) rfl k) ?_
  show OGo p e below s _ _ _ (s₁.setTop (mkF m 11 #[.val (.int va), .val (.int vb), .val (.int vr), .val (.int vc0), .unset, .unset, .unset] [(.int vr)]))
  by_cases hc4 : vr = (0 : Int32)
  · refine OGo.on (fun t k => XS.ifNo X0.here hx rfl (hb hby at_11) rfl ((if0 _ _).trans (teq hc4).2) k) ?_
    show OGo p e below s _ _ _ (s₁.setTop (mkF m 14 #[.val (.int va), .val (.int vb), .val (.int vr), .val (.int vc0), .unset, .unset, .unset] []))
    refine OGo.on (fun t k => XS.iloadN X0.here hx rfl (hb hby at_14) rfl k) ?_
    show OGo p e below s _ _ _ (s₁.setTop (mkF m 15 #[.val (.int va), .val (.int vb), .val (.int vr), .val (.int vc0), .unset, .unset, .unset] [(.int vc0)]))
    refine OGo.on (fun t k => XS.istore X0.here hx rfl (hb hby at_15) rfl (l' := #[.val (.int va), .val (.int vb), .val (.int vr), .val (.int vc0), .val (.int vc0), .unset, .unset]) rfl k) ?_
    show OGo p e below s _ _ _ (s₁.setTop (mkF m 17 #[.val (.int va), .val (.int vb), .val (.int vr), .val (.int vc0), .val (.int vc0), .unset, .unset] []))
    refine OGo.on (fun t k => XS.goto X0.here hx rfl (pc0 := 17) (pc' := 34) rfl (hb hby at_17) (by decide) (by decide) k) ?_
    show OGo p e below s _ _ _ (s₁.setTop (mkF m 34 #[.val (.int va), .val (.int vb), .val (.int vr), .val (.int vc0), .val (.int vc0), .unset, .unset] []))
    exact J _ (own_j0 _ hc4 hc0)
  · refine OGo.on (fun t k => XS.ifYes X0.here hx rfl (pc0 := 11) (pc' := 20) rfl (hb hby at_11) rfl ((if0 _ _).trans (feq hc4).2) (by decide) (by decide) k) ?_
    show OGo p e below s _ _ _ (s₁.setTop (mkF m 20 #[.val (.int va), .val (.int vb), .val (.int vr), .val (.int vc0), .unset, .unset, .unset] []))
    refine OGo.on (fun t k => XS.iloadN X0.here hx rfl (hb hby at_20) rfl k) ?_
    show OGo p e below s _ _ _ (s₁.setTop (mkF m 21 #[.val (.int va), .val (.int vb), .val (.int vr), .val (.int vc0), .unset, .unset, .unset] [(.int vc0)]))
    refine OGo.on (fun t k => XS.i2l X0.here hx rfl (hb hby at_21) rfl k) ?_
    show OGo p e below s _ _ _ (s₁.setTop (mkF m 22 #[.val (.int va), .val (.int vb), .val (.int vr), .val (.int vc0), .unset, .unset, .unset] [(.long (vc0.toInt64))]))
    refine OGo.on (fun t k => X0.ldc2J hx hown (mvT hZ (hw _ (List.mem_of_getElem? (i := 6) rfl))) (g := (mkF m 22 #[.val (.int va), .val (.int vb), .val (.int vr), .val (.int vc0), .unset, .unset, .unset] [(.long (vc0.toInt64))])) rfl (hb hby at_22) k) ?_
    show OGo p e below s _ _ _ (s₁.setTop (mkF m 25 #[.val (.int va), .val (.int vb), .val (.int vr), .val (.int vc0), .unset, .unset, .unset] [(.long (2147483647 : Int64)), (.long (vc0.toInt64))]))
    refine OGo.on (fun t k => XS.iloadN X0.here hx rfl (hb hby at_25) rfl k) ?_
    show OGo p e below s _ _ _ (s₁.setTop (mkF m 26 #[.val (.int va), .val (.int vb), .val (.int vr), .val (.int vc0), .unset, .unset, .unset] [(.int vr), (.long (2147483647 : Int64)), (.long (vc0.toInt64))]))
    refine OGo.on (fun t k => XS.i2l X0.here hx rfl (hb hby at_26) rfl k) ?_
    show OGo p e below s _ _ _ (s₁.setTop (mkF m 27 #[.val (.int va), .val (.int vb), .val (.int vr), .val (.int vc0), .unset, .unset, .unset] [(.long (vr.toInt64)), (.long (2147483647 : Int64)), (.long (vc0.toInt64))]))
    refine OGo.on (fun t k => XS.ldiv X0.here hx rfl (hb hby at_27) rfl (own_nzr (by assumption)) k) ?_
    show OGo p e below s _ _ _ (s₁.setTop (mkF m 28 #[.val (.int va), .val (.int vb), .val (.int vr), .val (.int vc0), .unset, .unset, .unset] [(.long ((2147483647 : Int64) / (vr.toInt64))), (.long (vc0.toInt64))]))
    refine OGo.on (fun t k => XS.lconst X0.here hx rfl (hb hby at_28) k) ?_
    show OGo p e below s _ _ _ (s₁.setTop (mkF m 29 #[.val (.int va), .val (.int vb), .val (.int vr), .val (.int vc0), .unset, .unset, .unset] [(.long (1 : Int64)), (.long ((2147483647 : Int64) / (vr.toInt64))), (.long (vc0.toInt64))]))
    refine OGo.on (fun t k => XS.ladd X0.here hx rfl (hb hby at_29) rfl k) ?_
    show OGo p e below s _ _ _ (s₁.setTop (mkF m 30 #[.val (.int va), .val (.int vb), .val (.int vr), .val (.int vc0), .unset, .unset, .unset] [(.long (((2147483647 : Int64) / (vr.toInt64)) + (1 : Int64))), (.long (vc0.toInt64))]))
    refine OGo.on (fun t k => XS.lrem X0.here hx rfl (hb hby at_30) rfl (own_nz hr0 (by assumption)) k) ?_
    show OGo p e below s _ _ _ (s₁.setTop (mkF m 31 #[.val (.int va), .val (.int vb), .val (.int vr), .val (.int vc0), .unset, .unset, .unset] [(.long ((vc0.toInt64) - (((vc0.toInt64) / (((2147483647 : Int64) / (vr.toInt64)) + (1 : Int64))) * (((2147483647 : Int64) / (vr.toInt64)) + (1 : Int64)))))]))
    refine OGo.on (fun t k => XS.l2i X0.here hx rfl (hb hby at_31) rfl k) ?_
    show OGo p e below s _ _ _ (s₁.setTop (mkF m 32 #[.val (.int va), .val (.int vb), .val (.int vr), .val (.int vc0), .unset, .unset, .unset] [(.int (((vc0.toInt64) - (((vc0.toInt64) / (((2147483647 : Int64) / (vr.toInt64)) + (1 : Int64))) * (((2147483647 : Int64) / (vr.toInt64)) + (1 : Int64)))).toInt32))]))
    refine OGo.on (fun t k => XS.istore X0.here hx rfl (hb hby at_32) rfl (l' := #[.val (.int va), .val (.int vb), .val (.int vr), .val (.int vc0), .val (.int (((vc0.toInt64) - (((vc0.toInt64) / (((2147483647 : Int64) / (vr.toInt64)) + (1 : Int64))) * (((2147483647 : Int64) / (vr.toInt64)) + (1 : Int64)))).toInt32)), .unset, .unset]) rfl k) ?_
    show OGo p e below s _ _ _ (s₁.setTop (mkF m 34 #[.val (.int va), .val (.int vb), .val (.int vr), .val (.int vc0), .val (.int (((vc0.toInt64) - (((vc0.toInt64) / (((2147483647 : Int64) / (vr.toInt64)) + (1 : Int64))) * (((2147483647 : Int64) / (vr.toInt64)) + (1 : Int64)))).toInt32)), .unset, .unset] []))
    exact J _ (own_j1 hr0 hc0 hc4)
set_option maxRecDepth 65536 in
set_option maxHeartbeats 40000000 in
theorem comes_1 {Post : Tables → Env → Array Value → State → Outcome → State → Prop} (hpost : ∀ tb e args s v u, (limb_1_1.after args s (.returned v) u = true ∧ limb_1_2.after args s (.returned v) u = true ∧ True) → FrameEnd s (.returned v) u (Jvm.fieldLocs frame_1_writes args s ++ Jvm.arrayLocs frame_1_arrays args s ++ Jvm.staticLocs frame_1_statics s) 0 0 → Post tb e args s (.returned v) u) :
    ArmFor flags0 classFile x code maxLocals ret World_1 tables_1 room_1 Calls_1 rest_1 Pre_1 Post := by
  intro l hfl _ _ p e ha hc hk s m args below hf hA hF happ hP
  obtain ⟨hcalls, hrest, hpre⟩ := hP
  obtain ⟨-, -, -, hnamed, -, -, -, hat⟩ := (Spec.applies_iff hf).mp happ
  obtain ⟨hg, hn⟩ := and_e (Cond.before_iff.mp (show (Jvm.Cond.and given_1 narrow_1).before args s = true from hpre))
  obtain ⟨gg5, gg6⟩ := and_e hg
  obtain ⟨gg7, gg8⟩ := and_e gg6
  obtain ⟨w0, w1, rfl⟩ : ∃ w0 w1 : Value, args = #[w0, w1] := by
    have hs : args.size = 2 := by simpa [Cond.value, given_1] using gg5
    obtain ⟨L⟩ := args
    match L, hs with
    | [w0, w1], _ => exact ⟨w0, w1, rfl⟩
  have hw := fun d (hd : d ∈ tables_1) => atoms_spec (ws := Jvm.Cond.code x code maxLocals ret :: tables_1) hat d (List.mem_cons_of_mem _ hd)
  obtain ⟨i0, ei0⟩ := is_v gg7
  obtain rfl : w0 = (.int i0) := Option.some.inj ei0
  obtain ⟨i1, ei1⟩ := is_v gg8
  obtain rfl : w1 = (.int i1) := Option.some.inj ei1
  obtain ⟨n, o, h1, h2, h3, _, L, rfl, ⟨rfl, N⟩, hq⟩ := own_law l s _ hw tables_1 i0 i1 s.heap s.heap.size (Nat.le_refl _)  p e ha hc hk s m _ below hf ((Spec.applies_iff_loose hf).mp happ).1 ⟨rfl, State.Warmed39.refl s, rfl⟩ trivial
  refine ⟨n, _, h1, h2, h3, hpost _ _ _ _ _ _ ⟨Cond.after_iff.mpr rfl, Cond.after_iff.mpr (eq_i res_at (Term.int_eval (1)) rfl), trivial⟩ ⟨hq.1, hq.2.1, (hq.2.2.sift fun y hy => Or.inr (N y hy)).mono (by decide) (by decide)⟩⟩
theorem main_1_1 : Claimed_1_1 := comes_1 fun _ _ _ _ _ _ h hF => ⟨h.1, hF⟩
theorem main_1_2 : Claimed_1_2 := comes_1 fun _ _ _ _ _ _ h hF => ⟨h.2.1, hF⟩
end Jvm.Pilot.@@N@@
namespace Jvm.Pilot.@@N@@
open Jvm Jvm.ClassFile Sem Op Lib Jvm.Free Jvm.Stand Jvm.Pilot.@@N@@.Jvm.D
/-! MADE BY PROGRAM (witnessworld.py) out of the Statement's table words and the real class files: 9 classes; the members and pool entries that the words name. The judged class is class 1, her method 1. -/
namespace start1
open Jvm.ClassFile
def u (s : String) : CpInfo := .utf8 (stringToUtf16 s)
/-- a pool by its gaps: so many unusable entries, then the entry; so many at the end -/
def gap : Nat → List CpInfo → List CpInfo
  | 0, r => r
  | n + 1, r => .unusable :: gap n r
def poolList (es : List (Nat × CpInfo)) (last : Nat) : List CpInfo := es.foldr (fun e r => gap e.1 (e.2 :: r)) (gap last [])
def pool (es : List (Nat × CpInfo)) (last : Nat) : Array CpInfo := ⟨poolList es last⟩
def fileOf (pool : Array CpInfo) (this : Nat) (attrs : Array Attribute := #[]) (ms : Array MethodInfo := #[]) (fl : Nat := 33) (sup : Nat := 0) (ifs : Array Nat := #[]) (fds : Array FieldInfo := #[]) : ClassFile where
  minorVersion := 0
  majorVersion := 65
  constantPool := pool
  accessFlags := fl
  thisClass := this
  superClass := sup
  interfaces := ifs
  fields := fds
  methods := ms
  attributes := attrs
def plain (name : String) (sup : Option ClassId) : Class where
  name := name
  kind := .ordinary
  loader := none
  accessFlags := 33
  super := sup
  interfaces := #[]
  cf := none
  fields := #[]
  methods := #[]
  instanceTypes := #[]
  staticTypes := #[]
  resolved := #[]
  callSites := []
  init := .initialized
  statics := none
  mirror := none

def pool0 : Array CpInfo := pool [(5, u "<init>"), (0, u "()V"), (1, .class_ 10), (1, u "java/lang/Object")] 113

def k0m0 : Method := { name := "<init>", desc := "()V", sig := { parameters := [], returnType := none }, accessFlags := 1, code := none }
/-- java/lang/Object -/
def k0 : Class := { plain "java/lang/Object" none with
  accessFlags := 33
  interfaces := #[]
  cf := some (fileOf pool0 8 #[] #[{ accessFlags := 1, nameIndex := 5, descriptorIndex := 6, attributes := #[] }] 33 0 #[] #[])
  fields := #[]
  methods := #[k0m0]
  instanceTypes := #[]
  staticTypes := #[]
  resolved := Array.replicate 124 none
  statics := none }

def pool1 : Array CpInfo := pool [(2, .class_ 4), (1, u "java/lang/Object"), (0, u "<init>"), (0, u "()V"), (0, .integer 2147483647), (2, .long 2147483647), (1, .methodref 13 14), (0, .class_ 15), (0, .nameAndType 16 17), (0, u "com/example/slotwright/slotwright/solver/Tables"), (0, u "cells"), (0, u "(II)I"), (0, .class_ 19), (0, u "com/example/slotwright/slotwright/solver/TablesCellsPinLaw"), (2, u "law"), (0, u "(II)Z")] 3

def k1m0 : Method := { name := "<init>", desc := "()V", sig := { parameters := [], returnType := none }, accessFlags := 2, code := none }
def k1c1 : Code := { maxStack := 6, maxLocals := 7, code := code, exceptionTable := #[], attributes := #[] }
def k1m1 : Method := { name := "law", desc := "(II)Z", sig := { parameters := [.int, .int], returnType := some .boolean }, accessFlags := 9, code := some k1c1 }
/-- com/example/slotwright/slotwright/solver/TablesCellsPinLaw -/
def k1 : Class := { plain "com/example/slotwright/slotwright/solver/TablesCellsPinLaw" (some 0) with
  accessFlags := 49
  interfaces := #[]
  cf := some (fileOf pool1 18 #[] #[{ accessFlags := 2, nameIndex := 5, descriptorIndex := 6, attributes := #[] }, { accessFlags := 9, nameIndex := 22, descriptorIndex := 23, attributes := #[] }] 49 2 #[] #[])
  fields := #[]
  methods := #[k1m0, k1m1]
  instanceTypes := #[]
  staticTypes := #[]
  resolved := Array.replicate 27 none
  statics := none }

def pool2 : Array CpInfo := pool [(2, .class_ 4), (1, u "java/lang/Object"), (0, u "<init>"), (0, u "()V"), (2, .long 2147483647), (29, .class_ 40), (0, u "com/example/slotwright/slotwright/solver/Tables"), (2, u "cells"), (0, u "(II)I")] 26

def k2m0 : Method := { name := "<init>", desc := "()V", sig := { parameters := [], returnType := none }, accessFlags := 2, code := none }
def k2c1 : Code := { maxStack := 4, maxLocals := 4, code := prog_66_method_2_code, exceptionTable := #[], attributes := #[] }
def k2m1 : Method := { name := "cells", desc := "(II)I", sig := { parameters := [.int, .int], returnType := some .int }, accessFlags := 8, code := some k2c1 }
/-- com/example/slotwright/slotwright/solver/Tables -/
def k2 : Class := { plain "com/example/slotwright/slotwright/solver/Tables" (some 0) with
  accessFlags := 32
  interfaces := #[]
  cf := some (fileOf pool2 39 #[] #[{ accessFlags := 2, nameIndex := 5, descriptorIndex := 6, attributes := #[] }, { accessFlags := 8, nameIndex := 43, descriptorIndex := 44, attributes := #[] }] 32 2 #[] #[])
  fields := #[]
  methods := #[k2m0, k2m1]
  instanceTypes := #[]
  staticTypes := #[]
  resolved := Array.replicate 71 none
  statics := none }

def pool3 : Array CpInfo := pool [(1, u "java/lang/Cloneable"), (0, .class_ 1), (0, u "java/lang/Object"), (0, .class_ 3)] 3

/-- java/lang/Cloneable -/
def k3 : Class := { plain "java/lang/Cloneable" (some 0) with
  accessFlags := 1537
  interfaces := #[]
  cf := some (fileOf pool3 2 #[] #[] 1537 4 #[] #[])
  fields := #[]
  methods := #[]
  instanceTypes := #[]
  staticTypes := #[]
  resolved := Array.replicate 8 none
  statics := none }

def pool4 : Array CpInfo := pool [(1, u "java/io/Serializable"), (0, .class_ 1), (0, u "java/lang/Object"), (0, .class_ 3)] 3

/-- java/io/Serializable -/
def k4 : Class := { plain "java/io/Serializable" (some 0) with
  accessFlags := 1537
  interfaces := #[]
  cf := some (fileOf pool4 2 #[] #[] 1537 4 #[] #[])
  fields := #[]
  methods := #[]
  instanceTypes := #[]
  staticTypes := #[]
  resolved := Array.replicate 8 none
  statics := none }

/-- the primitive byte -/
def k5 : Class := { plain "byte" none with kind := .primitive 'B', accessFlags := 0x411 }
/-- [B -/
def k6 : Class := { plain "[B" (some 0) with kind := .array 5 .byte, interfaces := #[3, 4], accessFlags := 1041 }

/-- the primitive int -/
def k7 : Class := { plain "int" none with kind := .primitive 'I', accessFlags := 0x411 }
/-- [I -/
def k8 : Class := { plain "[I" (some 0) with kind := .array 7 .int, interfaces := #[3, 4], accessFlags := 1041 }

def heap : Heap := #[]
def classes : Array Class := #[k0, k1, k2, k3, k4, k5, k6, k7, k8]
def interned : List (Array UInt16 × Addr) := []
def slotsUsed : Nat := 0
def theMethod : MethodId := ⟨1, 1⟩
def args0 : Array Value := #[.int 5, .int 3]
def aboutOver (below : List Frame) : State where
  vm := { classes := classes, interned := interned.toArray }
  heap := heap
  slotsUsed := slotsUsed
  threads := #[{ frames := .invoking theMethod args0 :: below }]
def below0 : List Frame := [.native { method := ⟨0, 0⟩, args := #[] }]
def about1 : State := aboutOver below0
def p0 : Program := .bare "" "" ""
def e0 : Env := launch0.env 0 0 0
theorem w_frames : about1.frames = Frame.invoking theMethod args0 :: below0 := rfl
set_option maxRecDepth 65536 in
theorem w_args : argsFit about1.vm theMethod args0 = true := by decide +kernel
set_option maxRecDepth 65536 in
theorem w_heap : heapFits about1 = true := by decide +kernel
set_option maxRecDepth 65536 in
theorem w_runnable : about1.curStatus? = some .runnable := by decide +kernel
set_option maxRecDepth 65536 in
theorem w_alone : about1.alone = true := by decide +kernel
set_option maxRecDepth 65536 in
theorem w_named : about1.methodNamed? x = some theMethod := by decide +kernel
set_option maxRecDepth 65536 in
theorem w_hears : about1.hears theMethod below0 = true := by decide +kernel
set_option maxRecDepth 65536 in
theorem w_ripe : about1.ripe theMethod args0 below0 = true := by decide +kernel
theorem w_running : about1.status = .running := rfl
set_option maxRecDepth 65536 in
theorem w_room : about1.hasRoom e0.platform room_1 = true :=
  launch0.hasRoom_least _ room_1 (by decide +kernel) (by decide +kernel) (by decide +kernel) (by decide +kernel) (by decide +kernel) (by decide +kernel)
theorem allAtoms_all (ts : List Jvm.Cond) (a : Array Jvm.Value) (st : Jvm.State) : (allAtoms ts).before a st = ts.all (fun c => c.before a st) := by
  induction ts with
  | nil => rfl
  | cons c t ih =>
    show (Jvm.Cond.and c (allAtoms t)).before a st = _
    rw [Jvm.Cond.before_and, ih, List.all_cons]
def words1 : List Jvm.Cond := Jvm.Cond.code x code maxLocals ret :: tables_1
/-- a 'code' word, met by the world's own term for the bytes: nothing is compared byte by byte -/
theorem code_word {y : MethodName} {bytes : ByteArray} {mx : Nat} {rt : Option FieldType} {a : Array Value} {s : State} {m : MethodId} {meth : Method} {c : Code} (h1 : s.methodNamed? y = some m) (h2 : s.vm.method? m = some meth) (h3 : meth.code = some c) (h4 : c.code = bytes)
    (h5 : (c.maxLocals == mx && c.exceptionTable.isEmpty && decide (c.maxStack ≤ mostOperands) && decide (meth.sig.returnType = rt) && !meth.locks && decide (parseMethodDescriptor y.desc = some meth.sig)) = true) : (Jvm.Cond.code y bytes mx rt).before a s = true := by
  simp only [Bool.and_eq_true, beq_iff_eq, Bool.not_eq_true', decide_eq_true_eq] at h5
  obtain ⟨⟨⟨⟨⟨g1, g2⟩, g3⟩, g4⟩, g5⟩, g6⟩ := h5
  simp [Cond.before, Cond.holds, Cond.value, h1, h2, h3, h4, g1, g2, g3, g4, g5, g6]
def isCode : Jvm.Cond → Bool
  | .code _ _ _ _ => true
  | _ => false
theorem all_split {L : List Jvm.Cond} {P : Jvm.Cond → Bool} (h1 : L.all (fun c => isCode c || P c) = true) (h2 : ∀ c ∈ L.filter isCode, P c = true) : L.all P = true := by
  refine List.all_eq_true.mpr fun c hc => ?_
  have h := List.all_eq_true.mp h1 c hc
  rcases Bool.eq_false_or_eq_true (isCode c) with hi | hi
  · exact h2 c (List.mem_filter.mpr ⟨hc, hi⟩)
  · simpa [hi] using h
set_option maxRecDepth 65536 in
theorem w_c0 : (Jvm.Cond.code x code maxLocals ret).before args0 about1 = true := code_word (m := ⟨1, 1⟩) (meth := k1m1) (c := k1c1) (by decide +kernel) rfl rfl rfl (by decide +kernel)
set_option maxRecDepth 65536 in
theorem w_c1 : (Jvm.Cond.code ({ cls := "com/example/slotwright/slotwright/solver/Tables", name := "cells", desc := "(II)I" } : Jvm.MethodName) prog_66_method_2_code (4 : Nat) (Option.some Jvm.ClassFile.FieldType.int)).before args0 about1 = true := code_word (m := ⟨2, 1⟩) (meth := k2m1) (c := k2c1) (by decide +kernel) rfl rfl rfl (by decide +kernel)
def codes1 : List Jvm.Cond := [Jvm.Cond.code x code maxLocals ret, Jvm.Cond.code ({ cls := "com/example/slotwright/slotwright/solver/Tables", name := "cells", desc := "(II)I" } : Jvm.MethodName) prog_66_method_2_code (4 : Nat) (Option.some Jvm.ClassFile.FieldType.int)]
set_option maxRecDepth 65536 in
theorem codes_eq : words1.filter isCode = codes1 := rfl
theorem w_codes : ∀ c ∈ words1.filter isCode, c.before args0 about1 = true := by
  rw [codes_eq]
  intro c hc
  simp only [codes1, List.mem_cons, List.not_mem_nil, or_false] at hc
  rcases hc with rfl | rfl
  · exact w_c0
  · exact w_c1
set_option maxRecDepth 65536 in
theorem w_t1 : words1.all (fun c => isCode c || c.before args0 about1) = true := by decide +kernel
theorem w_tables : (allAtoms (Jvm.Cond.code x code maxLocals ret :: tables_1)).before args0 about1 = true := by
  rw [allAtoms_all]
  show words1.all (fun c => c.before args0 about1) = true
  refine all_split ?_ w_codes
  rw [w_t1]
set_option maxRecDepth 65536 in
theorem w_case : (Jvm.Cond.and given_1 narrow_1).before args0 about1 = true := by decide +kernel
theorem w_applies : (headSpec (Jvm.Cond.code x code maxLocals ret :: tables_1) room_1).applies x e0.platform about1 = true :=
  (Spec.applies_iff w_frames).mpr ⟨w_running, w_runnable, w_alone, w_named, w_hears, w_ripe, w_room, w_tables⟩
theorem atStart : AtStart classFile x code maxLocals ret World_1 tables_1 room_1 Calls_1 rest_1 Pre_1 launch0 p0 e0 about1 theMethod args0 below0 :=
  ⟨lists_1, trivial, launch0.admits_env _ _ _, launch0.least_env, fairChoices_fair.cas, fairChoices_fair.clock, w_frames, w_args, w_heap, w_applies, trivial, trivial, w_case⟩
end start1
theorem witness_1 : WitnessClaimed_1 := ⟨start1.p0, start1.e0, start1.about1, start1.theMethod, start1.args0, start1.below0, start1.atStart⟩
end Jvm.Pilot.@@N@@
