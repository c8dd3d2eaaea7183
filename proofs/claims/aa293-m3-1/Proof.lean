import JvmDerived
import JvmDerived.Pilot.@@N@@Statement
import JvmDerived.Pilot.@@N@@Code
set_option linter.unusedVariables false
set_option linter.unusedSimpArgs false
@@BLOCK:NumsL.lean.txt@@
namespace Jvm.RoadKit
open Sem ClassFile Op Lib Jvm.Stand Jvm.Free Jvm.LawKit
section Own
variable {p : Program} {l : Launch} {e : Env} {R : Room} {s : State} {m : MethodId} {args : Array Value} {below : List Frame} {meth : Method} {c : Code} {T : State} {locs : List Loc} {cells slots : Nat} {Z : State} {h h' : Heap} {Q : Option Value → Heap → List Loc → Prop} {kc ks : Nat}
/-- from the state S the run comes to an end of which Q holds -/
def OGo (p : Program) (e : Env) (below : List Frame) (s : State) (Q : Option Value → Heap → List Loc → Prop) (kc ks : Nat) (S : State) : Prop :=
  ∃ s₂ o, Steps p.tables e below S s₂ ∧ s₂.status = .running ∧ Ended s₂ below o ∧ ∃ v L, o = .returned v ∧ Q v s₂.heap L ∧ FrameEnd s o s₂ L kc ks
theorem OGo.on {C N : State} (st : ∀ t, Steps p.tables e below N t → Steps p.tables e below C t) (h : OGo p e below s Q kc ks N) : OGo p e below s Q kc ks C := by
  obtain ⟨s₂, o, h1, h2⟩ := h
  exact ⟨s₂, o, st _ h1, h2⟩
theorem OGo.fin (X : Stand p l e R s m args below meth c T locs cells slots) {v : Option Value} (hv : meth.sig.returnType = none → v = none) (hlocks : meth.locks = false) {C : State}
    (st : ∀ fs, (∀ (f : JFrame) (acts : List Action), f.method = m → f.locked = none → f.entered = [] → (doReturn e (T.setTop f) acts v).1 = T.setFrames fs) → Steps p.tables e below C (T.setFrames fs)) (hq : Q v T.heap locs) (hc : cells ≤ kc) (hs : slots ≤ ks) : OGo p e below s Q kc ks C := by
  obtain ⟨fs, hr, hrun, hended, hW, hsame⟩ := X.leave hv hlocks
  exact ⟨_, _, st fs hr, hrun, hended, v, locs, rfl, hq, ⟨_, rfl⟩, hW, hsame.mono hc hs⟩
theorem OGo.retN (X : Stand p l e R s m args below meth c T locs cells slots) (hx : p.tables.exec = Jvm.exec) {pc : Nat} {Ls : Array Slot} {z : Int32} {t : FieldType} {rest : List Value} (hret : meth.sig.returnType = some t) (hlocks : meth.locks = false) (ht : t = .boolean ∨ t = .byte ∨ t = .char ∨ t = .short)
    (hd : decode c.code pc = .ok (.ireturn, 1)) (hq : Q (some (.int (nar t z))) T.heap locs) (hc : cells ≤ kc) (hs : slots ≤ ks) : OGo p e below s Q kc ks (T.setTop (mkF m pc Ls (.int z :: rest))) :=
  OGo.fin X (fun h => by rw [hret] at h; cases h) hlocks (fun fs hr => Jvm.RoadKit.retN X hx hret ht hd hr) hq hc hs
theorem OGo.retI (X : Stand p l e R s m args below meth c T locs cells slots) (hx : p.tables.exec = Jvm.exec) {pc : Nat} {Ls : Array Slot} {z : Int32} {rest : List Value} (hret : meth.sig.returnType = some .int) (hlocks : meth.locks = false)
    (hd : decode c.code pc = .ok (.ireturn, 1)) (hq : Q (some (.int z)) T.heap locs) (hc : cells ≤ kc) (hs : slots ≤ ks) : OGo p e below s Q kc ks (T.setTop (mkF m pc Ls (.int z :: rest))) :=
  OGo.fin X (fun h => by rw [hret] at h; cases h) hlocks (fun fs hr => retOut X hx hret rfl (Or.inl ⟨rfl, Or.inl rfl, _, rfl⟩) hd hr) hq hc hs
theorem OGo.retJ (X : Stand p l e R s m args below meth c T locs cells slots) (hx : p.tables.exec = Jvm.exec) {pc : Nat} {Ls : Array Slot} {z : Int64} {rest : List Value} (hret : meth.sig.returnType = some .long) (hlocks : meth.locks = false)
    (hd : decode c.code pc = .ok (.lreturn, 1)) (hq : Q (some (.long z)) T.heap locs) (hc : cells ≤ kc) (hs : slots ≤ ks) : OGo p e below s Q kc ks (T.setTop (mkF m pc Ls (.long z :: rest))) :=
  OGo.fin X (fun h => by rw [hret] at h; cases h) hlocks (fun fs hr => retOut X hx hret rfl (Or.inr (Or.inl ⟨rfl, rfl, _, rfl⟩)) hd hr) hq hc hs
theorem OGo.retA (X : Stand p l e R s m args below meth c T locs cells slots) (hx : p.tables.exec = Jvm.exec) {pc : Nat} {Ls : Array Slot} {a : Addr} {t : FieldType} {rest : List Value} (hret : meth.sig.returnType = some t) (ht : t.isReference = true) (hn : narrow t (.ref a) = .ref a) (hlocks : meth.locks = false)
    (hd : decode c.code pc = .ok (.areturn, 1)) (hq : Q (some (.ref a)) T.heap locs) (hc : cells ≤ kc) (hs : slots ≤ ks) : OGo p e below s Q kc ks (T.setTop (mkF m pc Ls (.ref a :: rest))) :=
  OGo.fin X (fun h => by rw [hret] at h; cases h) hlocks (fun fs hr => retOut X hx hret hn (Or.inr (Or.inr (Or.inr (Or.inr ⟨rfl, ht, rfl⟩)))) hd hr) hq hc hs
theorem OGo.ret0 (X : Stand p l e R s m args below meth c T locs cells slots) (hx : p.tables.exec = Jvm.exec) {pc : Nat} {Ls : Array Slot} (hret : meth.sig.returnType = none) (hlocks : meth.locks = false)
    (hd : decode c.code pc = .ok (.return_, 1)) (hq : Q none T.heap locs) (hc : cells ≤ kc) (hs : slots ≤ ks) : OGo p e below s Q kc ks (T.setTop (mkF m pc Ls [])) :=
  OGo.fin X (fun _ => rfl) hlocks (fun fs hr => X.returnOut hx hret hd hr) hq hc hs
/-- what a body that writes nothing leaves -/
def OPure (n0 : Nat) (h0 : Heap) (r : Option Value) (v : Option Value) (h : Heap) (L : List Loc) : Prop := v = r ∧ Fr n0 L ∧ h = h0
theorem opI {n0 : Nat} {h0 : Heap} {x y : Int32} {L : List Loc} (q : x = y) (N : Fr n0 L) (E : h = h0) : OPure n0 h0 (some (.int y)) (some (.int x)) h L := ⟨by rw [q], N, E⟩
theorem opJ {n0 : Nat} {h0 : Heap} {x y : Int64} {L : List Loc} (q : x = y) (N : Fr n0 L) (E : h = h0) : OPure n0 h0 (some (.long y)) (some (.long x)) h L := ⟨by rw [q], N, E⟩
theorem own_nz1 : nar .boolean 1 = 1 := rfl
theorem own_nz0 : nar .boolean 0 = 0 := rfl
theorem own_irem {C : State} {x y : Int32} {g : JFrame} (X : Stand p l e R s m args below meth c T locs cells slots) (hx : p.tables.exec = Jvm.exec) (hg : g.method = m) {rest : List Value} (hd : decode c.code g.pc = .ok (.irem, 1)) (hs : g.stack = .int y :: .int x :: rest) (hy : y ≠ 0) :
    ∀ t, Steps p.tables e below (T.setTop { g with pc := g.pc + 1, stack := .int (x % y) :: rest }) t → Steps p.tables e below (T.setTop g) t := fun t k => iremM X hx hg hd hs hy k
/-! lcmp and the branch behind it -/
theorem own_lc (cd : ClassFile.Cond) (a b : Int64) : ifCond.holds cd (lcmpW a b) = (match cd with | .eq => decide (a = b) | .ne => !decide (a = b) | .lt => decide (a < b) | .ge => !decide (a < b) | .gt => decide (b < a) | .le => !decide (b < a)) := by
  have h1 : a = b ↔ a.toInt = b.toInt := (Int64.toInt_inj).symm
  by_cases g : a > b
  · have g' : b.toInt < a.toInt := Int64.lt_iff_toInt_lt.mp g
    have e1 : lcmpW a b = 1 := if_pos g
    have e2 : ¬ a = b := fun q => by rw [h1] at q; omega
    have e3 : ¬ a < b := fun q => by rw [Int64.lt_iff_toInt_lt] at q; omega
    have e4 : b < a := g
    rw [e1]; cases cd <;> simp [e2, e3, e4] <;> decide
  · by_cases q : a = b
    · have e1 : lcmpW a b = 0 := by rw [lcmpW, if_neg g, if_pos q]
      subst q
      have e3 : ¬ a < a := fun q => by rw [Int64.lt_iff_toInt_lt] at q; omega
      rw [e1]; cases cd <;> simp [e3] <;> decide
    · have e1 : lcmpW a b = -1 := by rw [lcmpW, if_neg g, if_neg q]
      have g1 : ¬ b < a := g
      have g2 : a < b := by rw [Int64.lt_iff_toInt_lt] at g1 ⊢; rw [h1] at q; omega
      rw [e1]; cases cd <;> simp [q, g1, g2] <;> decide
theorem lc_tlt {a b : Int64} (h : a < b) : ifCond.holds .lt (lcmpW a b) = true ∧ ifCond.holds .ge (lcmpW a b) = false ∧ ifCond.holds .gt (lcmpW b a) = true ∧ ifCond.holds .le (lcmpW b a) = false := by simp only [own_lc]; simp [h]
theorem lc_flt {a b : Int64} (h : ¬ a < b) : ifCond.holds .lt (lcmpW a b) = false ∧ ifCond.holds .ge (lcmpW a b) = true ∧ ifCond.holds .gt (lcmpW b a) = false ∧ ifCond.holds .le (lcmpW b a) = true := by simp only [own_lc]; simp [h]
theorem lc_teq {a b : Int64} (h : a = b) : ifCond.holds .eq (lcmpW a b) = true ∧ ifCond.holds .ne (lcmpW a b) = false := by simp only [own_lc]; simp [h]
theorem lc_feq {a b : Int64} (h : ¬ a = b) : ifCond.holds .eq (lcmpW a b) = false ∧ ifCond.holds .ne (lcmpW a b) = true := by simp only [own_lc]; simp [h]
theorem own_nm0 {a : Addr} : a ∉ ([] : List Addr) := fun q => nomatch q
theorem own_nm1 {a b : Addr} (h : a ≠ b) : a ∉ [b] := fun q => h (List.mem_singleton.mp q)
theorem own_nm2 {a b d : Addr} (h : a ≠ b) (h' : a ≠ d) : a ∉ [b, d] := fun q => (List.mem_cons.mp q).elim h fun q => h' (List.mem_singleton.mp q)
theorem own_nm3 {a b d f : Addr} (h : a ≠ b) (h' : a ≠ d) (h'' : a ≠ f) : a ∉ [b, d, f] := fun q => (List.mem_cons.mp q).elim h fun q => (own_nm2 h' h'') q
/-! arrays of numbers, known whole -/
/-- the array at a holds just the ints vs -/
def OAL (Z : State) (h : Heap) (a : Addr) (ty : FieldType) (vs : List Int32) : Prop := ∃ c : Cell, Arr Z h a c ty ∧ c.slots = (vs.map Value.int).toArray
/-- the array at a holds just the longs vs -/
def OAJ (Z : State) (h : Heap) (a : Addr) (vs : List Int64) : Prop := ∃ c : Cell, Arr Z h a c .long ∧ c.slots = (vs.map Value.long).toArray
/-- the place j lies inside and holds v -/
def OAt {α : Type} (vs : List α) (j : Int32) (v : α) : Prop := ¬ j < 0 ∧ vs[j.toNatClampNeg]? = some v
variable {a b : Addr} {ty : FieldType} {vs : List Int32} {us : List Int64} {ws : List Addr} {sl : Nat} {w : Value}
theorem OAL.lt (A : OAL Z h a ty vs) : a < h.size := by obtain ⟨c, A, -⟩ := A; exact A.lt
theorem OAJ.lt (A : OAJ Z h a us) : a < h.size := by obtain ⟨c, A, -⟩ := A; exact A.lt
theorem OAL.ext (A : OAL Z h a ty vs) (E : Ext h h') : OAL Z h' a ty vs := by obtain ⟨c, A, r⟩ := A; exact ⟨c, A.ext E, r⟩
theorem OAJ.ext (A : OAJ Z h a us) (E : Ext h h') : OAJ Z h' a us := by obtain ⟨c, A, r⟩ := A; exact ⟨c, A.ext E, r⟩
theorem OAL.keep (A : OAL Z h a ty vs) (K : Keep h h' ws) (q : a ∉ ws) : OAL Z h' a ty vs := by obtain ⟨c, A, r⟩ := A; exact ⟨c, ⟨K.2.1 a c A.1 q, A.2⟩, r⟩
theorem OAJ.keep (A : OAJ Z h a us) (K : Keep h h' ws) (q : a ∉ ws) : OAJ Z h' a us := by obtain ⟨c, A, r⟩ := A; exact ⟨c, ⟨K.2.1 a c A.1 q, A.2⟩, r⟩
theorem OAL.other (A : OAL Z h b ty vs) (W : Wr h h' a sl w) (q : b ≠ a) : OAL Z h' b ty vs := by obtain ⟨c, A, r⟩ := A; exact ⟨c, A.other W q, r⟩
theorem OAJ.other (A : OAJ Z h b us) (W : Wr h h' a sl w) (q : b ≠ a) : OAJ Z h' b us := by obtain ⟨c, A, r⟩ := A; exact ⟨c, A.other W q, r⟩
theorem own_slots (cl : Cell) (i : Nat) (v : Value) : (cl.setSlot i v).slots = cl.slots.setIfInBounds i v := rfl
theorem OAL.same (A : OAL Z h a ty vs) {i : Nat} {x : Int32} (W : Wr h h' a i (.int x)) : OAL Z h' a ty (vs.set i x) := by
  obtain ⟨c, A, r⟩ := A
  exact ⟨_, A.same W, by rw [own_slots, r]; simp [List.map_set]⟩
theorem OAJ.same (A : OAJ Z h a us) {i : Nat} {x : Int64} (W : Wr h h' a i (.long x)) : OAJ Z h' a (us.set i x) := by
  obtain ⟨c, A, r⟩ := A
  exact ⟨_, A.same W, by rw [own_slots, r]; simp [List.map_set]⟩
theorem OAL.new {cA : ClassId} {n : Int32} (A : Arr Z h a (newA cA ty n) ty) (q : defaultValue ty = .int 0) : OAL Z h a ty (List.replicate n.toNatClampNeg 0) := ⟨_, A, by
  show Array.replicate n.toNatClampNeg (defaultValue ty) = _
  rw [q]; simp⟩
theorem OAJ.new {cA : ClassId} {n : Int32} (A : Arr Z h a (newA cA .long n) .long) : OAJ Z h a (List.replicate n.toNatClampNeg 0) := ⟨_, A, by
  show Array.replicate n.toNatClampNeg (Value.long 0) = _
  simp⟩
theorem own_in {α : Type} {vs : List α} {f : α → Value} {j : Int32} {v : α} {cl : Cell} (r : cl.slots = (vs.map f).toArray) (q : OAt vs j v) : ¬ (j < 0 ∨ cl.slots.size ≤ j.toNatClampNeg) ∧ cl.slots[j.toNatClampNeg]? = some (f v) := by
  obtain ⟨q1, q2⟩ := q
  have hl := (List.getElem?_eq_some_iff.mp q2).1
  rw [r]
  refine ⟨fun z => z.elim q1 fun y => ?_, ?_⟩
  · simp at y; omega
  · simp [q2]
theorem OAL.baB (X : Stand p l e R s m args below meth c T locs cells slots) (hx : p.tables.exec = Jvm.exec) (hZ : Z.Warmed39 s.vm) (eT : T.heap = h) (A : OAL Z h a .byte vs) {j v : Int32} (q : OAt vs j v) {pc : Nat} {Ls : Array Slot} {rest : List Value} (hd : decode c.code pc = .ok (.baload, 1)) {t : State}
    (k : Steps p.tables e below (T.setTop (mkF m (pc + 1) Ls (.int v :: rest))) t) : Steps p.tables e below (T.setTop (mkF m pc Ls (.int j :: .ref a :: rest))) t := by
  obtain ⟨cl, A, r⟩ := A
  exact X.baloadBytes hx (j := j) (v := .int v) (by rw [eT]; exact A.1) (State.isArrayOf_alike hZ.alike A.2.1) A.2.2 (own_in r q).1 (own_in r q).2 (g := mkF m pc Ls (.int j :: .ref a :: rest)) rfl rfl hd _ k
theorem OAL.baZ (X : Stand p l e R s m args below meth c T locs cells slots) (hx : p.tables.exec = Jvm.exec) (hZ : Z.Warmed39 s.vm) (eT : T.heap = h) (A : OAL Z h a .boolean vs) {j v : Int32} (q : OAt vs j v) {pc : Nat} {Ls : Array Slot} {rest : List Value} (hd : decode c.code pc = .ok (.baload, 1)) {t : State}
    (k : Steps p.tables e below (T.setTop (mkF m (pc + 1) Ls (.int v :: rest))) t) : Steps p.tables e below (T.setTop (mkF m pc Ls (.int j :: .ref a :: rest))) t := by
  obtain ⟨cl, A, r⟩ := A
  exact X.baloadBooleans hx (j := j) (v := .int v) (by rw [eT]; exact A.1) (State.isArrayOf_alike hZ.alike A.2.1) A.2.2 (own_in r q).1 (own_in r q).2 (g := mkF m pc Ls (.int j :: .ref a :: rest)) rfl rfl hd _ k
theorem OAL.ia (X : Stand p l e R s m args below meth c T locs cells slots) (hx : p.tables.exec = Jvm.exec) (hZ : Z.Warmed39 s.vm) (eT : T.heap = h) (A : OAL Z h a .int vs) {j v : Int32} (q : OAt vs j v) {pc : Nat} {Ls : Array Slot} {rest : List Value} (hd : decode c.code pc = .ok (.iaload, 1)) {t : State}
    (k : Steps p.tables e below (T.setTop (mkF m (pc + 1) Ls (.int v :: rest))) t) : Steps p.tables e below (T.setTop (mkF m pc Ls (.int j :: .ref a :: rest))) t := by
  obtain ⟨cl, A, r⟩ := A
  exact X.iaload hx (j := j) (v := .int v) (by rw [eT]; exact A.1) (State.isArrayOf_alike hZ.alike A.2.1) A.2.2 (own_in r q).1 (own_in r q).2 (g := mkF m pc Ls (.int j :: .ref a :: rest)) rfl rfl hd _ k
theorem OAJ.la (X : Stand p l e R s m args below meth c T locs cells slots) (hx : p.tables.exec = Jvm.exec) (hZ : Z.Warmed39 s.vm) (eT : T.heap = h) (A : OAJ Z h a us) {j : Int32} {v : Int64} (q : OAt us j v) {pc : Nat} {Ls : Array Slot} {rest : List Value} (hd : decode c.code pc = .ok (.laload, 1)) {t : State}
    (k : Steps p.tables e below (T.setTop (mkF m (pc + 1) Ls (.long v :: rest))) t) : Steps p.tables e below (T.setTop (mkF m pc Ls (.int j :: .ref a :: rest))) t := by
  obtain ⟨cl, A, r⟩ := A
  exact X.laload hx (j := j) (v := .long v) (by rw [eT]; exact A.1) (State.isArrayOf_alike hZ.alike A.2.1) A.2.2 (own_in r q).1 (own_in r q).2 (g := mkF m pc Ls (.int j :: .ref a :: rest)) rfl rfl hd _ k
theorem OAL.len (X : Stand p l e R s m args below meth c T locs cells slots) (hx : p.tables.exec = Jvm.exec) (hZ : Z.Warmed39 s.vm) (eT : T.heap = h) (A : OAL Z h a ty vs) {n : Int32} (q : vs.length.toInt32 = n) {pc : Nat} {Ls : Array Slot} {rest : List Value} (hd : decode c.code pc = .ok (.arraylength, 1)) {t : State}
    (k : Steps p.tables e below (T.setTop (mkF m (pc + 1) Ls (.int n :: rest))) t) : Steps p.tables e below (T.setTop (mkF m pc Ls (.ref a :: rest))) t := by
  obtain ⟨cl, A, r⟩ := A
  have z : cl.slots.size = vs.length := by rw [r]; simp
  exact X.arraylength hx (by rw [eT]; exact A.1) (State.isArrayOf_alike hZ.alike A.2.1) (g := mkF m pc Ls (.ref a :: rest)) rfl rfl hd _ (by rw [z, q]; exact k)
theorem OAJ.len (X : Stand p l e R s m args below meth c T locs cells slots) (hx : p.tables.exec = Jvm.exec) (hZ : Z.Warmed39 s.vm) (eT : T.heap = h) (A : OAJ Z h a us) {n : Int32} (q : us.length.toInt32 = n) {pc : Nat} {Ls : Array Slot} {rest : List Value} (hd : decode c.code pc = .ok (.arraylength, 1)) {t : State}
    (k : Steps p.tables e below (T.setTop (mkF m (pc + 1) Ls (.int n :: rest))) t) : Steps p.tables e below (T.setTop (mkF m pc Ls (.ref a :: rest))) t := by
  obtain ⟨cl, A, r⟩ := A
  have z : cl.slots.size = us.length := by rw [r]; simp
  exact X.arraylength hx (by rw [eT]; exact A.1) (State.isArrayOf_alike hZ.alike A.2.1) (g := mkF m pc Ls (.ref a :: rest)) rfl rfl hd _ (by rw [z, q]; exact k)
theorem own_into {α : Type} {vs : List α} {f : α → Value} {j : Int32} {cl : Cell} (r : cl.slots = (vs.map f).toArray) (q1 : ¬ j < 0) (q2 : j.toNatClampNeg < vs.length) : ¬ (j < 0 ∨ cl.slots.size ≤ j.toNatClampNeg) := by
  rw [r]
  exact fun z => z.elim q1 fun y => by simp at y; omega
theorem OAL.stB (X : Stand p l e R s m args below meth c T locs cells slots) (hx : p.tables.exec = Jvm.exec) (hZ : Z.Warmed39 s.vm) (eT : T.heap = h) (A : OAL Z h a .byte vs) {j x : Int32} (q1 : ¬ j < 0) (q2 : j.toNatClampNeg < vs.length) {pc : Nat} {Ls : Array Slot} {rest : List Value} (hd : decode c.code pc = .ok (.bastore, 1)) :
    ∃ T' h', Stand p l e R s m args below meth c T' (locs ++ [⟨a, j.toNatClampNeg⟩]) cells slots ∧ T'.heap = h' ∧ Wr h h' a j.toNatClampNeg (.int (nar .byte x)) ∧ OAL Z h' a .byte (vs.set j.toNatClampNeg (nar .byte x)) ∧ ∀ t, Steps p.tables e below (T'.setTop (mkF m (pc + 1) Ls rest)) t → Steps p.tables e below (T.setTop (mkF m pc Ls (.int x :: .int j :: .ref a :: rest))) t := by
  obtain ⟨cl, A', r⟩ := A
  obtain ⟨T', h', X', e', W', st⟩ := Jvm.RoadKit.stB X hx hZ eT A' (j := j) (x := x) (own_into r q1 q2) (g := mkF m pc Ls (.int x :: .int j :: .ref a :: rest)) rfl rfl hd
  exact ⟨T', h', X', e', W', OAL.same ⟨cl, A', r⟩ W', st⟩
theorem OAL.stZ (X : Stand p l e R s m args below meth c T locs cells slots) (hx : p.tables.exec = Jvm.exec) (hZ : Z.Warmed39 s.vm) (eT : T.heap = h) (A : OAL Z h a .boolean vs) {j x : Int32} (q1 : ¬ j < 0) (q2 : j.toNatClampNeg < vs.length) {pc : Nat} {Ls : Array Slot} {rest : List Value} (hd : decode c.code pc = .ok (.bastore, 1)) :
    ∃ T' h', Stand p l e R s m args below meth c T' (locs ++ [⟨a, j.toNatClampNeg⟩]) cells slots ∧ T'.heap = h' ∧ Wr h h' a j.toNatClampNeg (.int (nar .boolean x)) ∧ OAL Z h' a .boolean (vs.set j.toNatClampNeg (nar .boolean x)) ∧ ∀ t, Steps p.tables e below (T'.setTop (mkF m (pc + 1) Ls rest)) t → Steps p.tables e below (T.setTop (mkF m pc Ls (.int x :: .int j :: .ref a :: rest))) t := by
  obtain ⟨cl, A', r⟩ := A
  obtain ⟨T', h', X', e', W', st⟩ := Jvm.RoadKit.stZ X hx hZ eT A' (j := j) (x := x) (own_into r q1 q2) (g := mkF m pc Ls (.int x :: .int j :: .ref a :: rest)) rfl rfl hd
  exact ⟨T', h', X', e', W', OAL.same ⟨cl, A', r⟩ W', st⟩
theorem OAL.stI (X : Stand p l e R s m args below meth c T locs cells slots) (hx : p.tables.exec = Jvm.exec) (hZ : Z.Warmed39 s.vm) (eT : T.heap = h) (A : OAL Z h a .int vs) {j x : Int32} (q1 : ¬ j < 0) (q2 : j.toNatClampNeg < vs.length) {pc : Nat} {Ls : Array Slot} {rest : List Value} (hd : decode c.code pc = .ok (.iastore, 1)) :
    ∃ T' h', Stand p l e R s m args below meth c T' (locs ++ [⟨a, j.toNatClampNeg⟩]) cells slots ∧ T'.heap = h' ∧ Wr h h' a j.toNatClampNeg (.int x) ∧ OAL Z h' a .int (vs.set j.toNatClampNeg x) ∧ ∀ t, Steps p.tables e below (T'.setTop (mkF m (pc + 1) Ls rest)) t → Steps p.tables e below (T.setTop (mkF m pc Ls (.int x :: .int j :: .ref a :: rest))) t := by
  obtain ⟨cl, A', r⟩ := A
  obtain ⟨T', h', X', e', W', st⟩ := Jvm.RoadKit.stI X hx hZ eT A' (j := j) (x := x) (own_into r q1 q2) (g := mkF m pc Ls (.int x :: .int j :: .ref a :: rest)) rfl rfl hd
  exact ⟨T', h', X', e', W', OAL.same ⟨cl, A', r⟩ W', st⟩
theorem OAJ.stJ (X : Stand p l e R s m args below meth c T locs cells slots) (hx : p.tables.exec = Jvm.exec) (hZ : Z.Warmed39 s.vm) (eT : T.heap = h) (A : OAJ Z h a us) {j : Int32} {x : Int64} (q1 : ¬ j < 0) (q2 : j.toNatClampNeg < us.length) {pc : Nat} {Ls : Array Slot} {rest : List Value} (hd : decode c.code pc = .ok (.lastore, 1)) :
    ∃ T' h', Stand p l e R s m args below meth c T' (locs ++ [⟨a, j.toNatClampNeg⟩]) cells slots ∧ T'.heap = h' ∧ Wr h h' a j.toNatClampNeg (.long x) ∧ OAJ Z h' a (us.set j.toNatClampNeg x) ∧ ∀ t, Steps p.tables e below (T'.setTop (mkF m (pc + 1) Ls rest)) t → Steps p.tables e below (T.setTop (mkF m pc Ls (.long x :: .int j :: .ref a :: rest))) t := by
  obtain ⟨cl, A', r⟩ := A
  obtain ⟨T', h', X', e', W', st⟩ := Jvm.RoadKit.stJ X hx hZ eT A' (j := j) (x := x) (own_into r q1 q2) (g := mkF m pc Ls (.long x :: .int j :: .ref a :: rest)) rfl rfl hd
  exact ⟨T', h', X', e', W', OAJ.same ⟨cl, A', r⟩ W', st⟩
end Own
end Jvm.RoadKit
namespace Jvm.Pilot.@@N@@
open Jvm Jvm.ClassFile Sem Op Lib Jvm.Free Jvm.Stand Jvm.LawKit Jvm.RoadKit Bundle Jvm.Pilot.@@N@@.Jvm.D
def own_cmp (x y : Int64) : Int32 := if x < y then -1 else if x = y then 0 else 1
def own_ct (v c w d : Int64) : Int32 := if v = w then own_cmp c d else own_cmp v w
def own_hv (v : Int64) : Int32 := if 0 < v then 1 else 0
theorem own_pos {v : Int64} (h : ¬ v < 0) (h0 : ¬ v = 0) : 0 < v := by
  rw [Int64.lt_iff_toInt_lt] at h ⊢
  rw [← Int64.toInt_inj] at h0
  omega
theorem own_hv1 {v : Int64} (h : ¬ v < 0) (h0 : ¬ v = 0) : own_hv v = 1 := if_pos (own_pos h h0)
theorem own_hv0 {v : Int64} (h0 : v = 0) : own_hv v = 0 := by subst h0; decide
theorem own_ct1 {v c d : Int64} (h : ¬ v < 0) (h0 : ¬ v = 0) : 0 < own_ct v c 0 d := by
  have e : own_ct v c 0 d = 1 := by unfold own_ct own_cmp; rw [if_neg h0, if_neg h, if_neg h0]
  rw [e]; decide
theorem own_ct0 {v c : Int64} (h0 : v = 0) : ¬ 0 < own_ct v c 0 9223372036854775807 := by
  unfold own_ct own_cmp
  rw [if_pos h0]
  by_cases q : c < 9223372036854775807
  · rw [if_pos q]; decide
  · rw [if_neg q]
    have e : c = 9223372036854775807 := by
      rw [Int64.lt_iff_toInt_lt] at q
      rw [← Int64.toInt_inj]
      have k : (9223372036854775807 : Int64).toInt = 9223372036854775807 := by decide
      have := c.toInt_lt
      omega
    rw [if_pos e]; decide
theorem own_mask63 (a : Int64) : ¬ (a &&& 9223372036854775807) < 0 := by
  rw [Int64.lt_iff_toInt_lt, Jvm.Kit.i64_mask a 9223372036854775807 (k := 63) (by decide) (by decide)]
  have k : (0 : Int64).toInt = 0 := by decide
  have := Int.emod_nonneg a.toInt (b := 2 ^ 63) (by decide)
  omega
theorem own_pn0 : plainName "java/lang/Record" = true := by first | (simp [plainName, overriddenIn]; done) | decide +kernel
theorem own_pd0 : parseMethodDescriptor "()V" = some ⟨[], none⟩ := by decide +kernel
theorem ef_own_rec (m : MethodId) (x0 : Addr) : entryFrame m #[(.ref x0)] 1 = mkF m 0 #[.val (.ref x0)] [] := by first | (simp [entryFrame, mkF, argsToLocals, Value.category]; done) | rfl
theorem d2_0 : decode jdk_30_method_1_code 0 = .ok (.aload_n 0, 1) := by decide +kernel
theorem d2_1 : decode jdk_30_method_1_code 1 = .ok (.invokespecial 1, 3) := by decide +kernel
theorem d2_4 : decode jdk_30_method_1_code 4 = .ok (.return_, 1) := by decide +kernel
set_option maxRecDepth 65536 in
set_option maxHeartbeats 40000000 in
theorem own_rec (l : Launch) (Z : State) (a0 : Array Value) (hw : ∀ d ∈ tables_1, d.before a0 Z = true) (ws : List Jvm.Cond) (ra : Addr) (h0 : Heap) (n0 : Nat) (Z0 : n0 ≤ h0.size)  :
    MetFree l (⟨"java/lang/Record", "<init>", "()V"⟩ : MethodName) (head1 (Jvm.Cond.code (⟨"java/lang/Record", "<init>", "()V"⟩ : MethodName) jdk_30_method_1_code 1 none :: ws) ({ frames := 1, cells := 0, slots := 0, locals := 12 } : Room)) (fun a U => a = #[(.ref ra)] ∧ Z.Warmed39 U.vm ∧ U.heap = h0) (fun _ _ _ _ _ => True) (fun _ U o U' => ∃ v L, o = .returned v ∧ (OPure n0 h0 none) v U'.heap L ∧ FrameEnd U o U' L ({ frames := 1, cells := 0, slots := 0, locals := 12 } : Room).cells ({ frames := 1, cells := 0, slots := 0, locals := 12 } : Room).slots) := by
  refine MetFree.of_bodySF (plainFor_of_name own_pn0) hisR ?_
  intro p e s m args below meth c s₁ Bd hml0 hP hK
  obtain ⟨rfl, hZ, hh⟩ := hP
  have hx := Bd.exec
  have hby := Bd.bytes
  have hret := Bd.returns
  have hlk : meth.locks = false := Bd.notSynchronized
  have hml : c.maxLocals = 1 := hml0
  have hown : s.vm.findClass "java/lang/Record" = some m.cls := findClass_of_methodNamed Bd.named
  have hnm := (name_of_methodNamed Bd.named Bd.method).1
  have X0 : Stand p l e ({ frames := 1, cells := 0, slots := 0, locals := 12 } : Room) s m #[(.ref ra)] below meth c s₁ [] 0 0 := Stand.of_body Bd
  have e0 : s₁.heap = h0 := by rw [← hh, Bd.state]; rfl
  have N0 := Fr.nil n0
  have pre0 : ∀ t, Steps p.tables e below (s₁.setTop (mkF m 0 #[.val (.ref ra)] [])) t → Steps p.tables e below (s₁.setTop (entryFrame m #[(.ref ra)] 1)) t := fun t k => castTop (ef_own_rec m ra) k
  show OGo p e below s (OPure n0 h0 none) ({ frames := 1, cells := 0, slots := 0, locals := 12 } : Room).cells ({ frames := 1, cells := 0, slots := 0, locals := 12 } : Room).slots (s₁.setTop (entryFrame m #[(.ref ra)] 1))
  refine OGo.on pre0 ?_
  show OGo p e below s _ _ _ (s₁.setTop (mkF m 0 #[.val (.ref ra)] []))
  refine OGo.on (fun t k => XS.aloadN X0.here hx rfl (hb hby d2_0) rfl rfl k) ?_
  show OGo p e below s _ _ _ (s₁.setTop (mkF m 1 #[.val (.ref ra)] [(.ref ra)]))
  obtain ⟨T1, X1, e1, st1⟩ := initO X0 hx hZ hown (hw _ (List.mem_of_getElem? (i := 12) rfl)) (hw _ (List.mem_of_getElem? (i := 13) rfl)) (hw _ (List.mem_of_getElem? (i := 14) rfl)) e0 (g := (mkF m 1 #[.val (.ref ra)] [(.ref ra)])) rfl (by rw [hml]; rfl) rfl (hb hby d2_1) (by decide) (W := 0) (by show 2 * 0 + _ ≤ _; exact Nat.le_of_eq rfl) (by decide)
  refine OGo.on st1 ?_
  show OGo p e below s _ _ _ (T1.setTop (mkF m 4 #[.val (.ref ra)] []))
  exact OGo.ret0 X1 hx hret hlk (hb hby d2_4) ⟨rfl, N0, e1⟩ (by decide) (by decide)
def Q_own_minit (Z : State) (ra : Addr) (vv vc : Int64) (h0 : Heap) (n0 : Nat) (v : Option Value) (h : Heap) (L : List Loc) : Prop := v = none ∧ Fr n0 L ∧ Keep h0 h [ra] ∧ Fld Z h ra "com/example/slotwright/slotwright/core/Score" "violations" "J" (.long vv) ∧ Fld Z h ra "com/example/slotwright/slotwright/core/Score" "cost" "J" (.long vc)
theorem own_pn1 : plainName "com/example/slotwright/slotwright/core/Score" = true := by first | (simp [plainName, overriddenIn]; done) | decide +kernel
theorem ef_own_minit (m : MethodId) (x0 : Addr) (x1 : Int64) (x2 : Int64) : entryFrame m #[(.ref x0), (.long x1), (.long x2)] 5 = mkF m 0 #[.val (.ref x0), .val (.long x1), .second, .val (.long x2), .second] [] := by first | (simp [entryFrame, mkF, argsToLocals, Value.category]; done) | rfl
theorem d1_0 : decode prog_26_method_1_code 0 = .ok (.aload_n 0, 1) := by decide +kernel
theorem d1_1 : decode prog_26_method_1_code 1 = .ok (.invokespecial 1, 3) := by decide +kernel
theorem d1_4 : decode prog_26_method_1_code 4 = .ok (.lload_n 1, 1) := by decide +kernel
theorem d1_5 : decode prog_26_method_1_code 5 = .ok (.lconst 0, 1) := by decide +kernel
theorem d1_6 : decode prog_26_method_1_code 6 = .ok (.lcmp, 1) := by decide +kernel
theorem d1_7 : decode prog_26_method_1_code 7 = .ok (.ifCond .ge 17, 3) := by decide +kernel
theorem d1_24 : decode prog_26_method_1_code 24 = .ok (.lload_n 3, 1) := by decide +kernel
theorem d1_25 : decode prog_26_method_1_code 25 = .ok (.lconst 0, 1) := by decide +kernel
theorem d1_26 : decode prog_26_method_1_code 26 = .ok (.lcmp, 1) := by decide +kernel
theorem d1_27 : decode prog_26_method_1_code 27 = .ok (.ifCond .ge 17, 3) := by decide +kernel
theorem d1_44 : decode prog_26_method_1_code 44 = .ok (.aload_n 0, 1) := by decide +kernel
theorem d1_45 : decode prog_26_method_1_code 45 = .ok (.lload_n 1, 1) := by decide +kernel
theorem d1_46 : decode prog_26_method_1_code 46 = .ok (.putfield 17, 3) := by decide +kernel
theorem d1_49 : decode prog_26_method_1_code 49 = .ok (.aload_n 0, 1) := by decide +kernel
theorem d1_50 : decode prog_26_method_1_code 50 = .ok (.lload_n 3, 1) := by decide +kernel
theorem d1_51 : decode prog_26_method_1_code 51 = .ok (.putfield 23, 3) := by decide +kernel
theorem d1_54 : decode prog_26_method_1_code 54 = .ok (.return_, 1) := by decide +kernel
set_option maxRecDepth 65536 in
set_option maxHeartbeats 40000000 in
theorem own_minit (l : Launch) (Z : State) (a0 : Array Value) (hw : ∀ d ∈ tables_1, d.before a0 Z = true) (ws : List Jvm.Cond) (ra : Addr) (vv vc : Int64) (h0 : Heap) (n0 : Nat) (Z0 : n0 ≤ h0.size) (g_ra : n0 ≤ ra) (E_ra : Exa Z h0 ra "com/example/slotwright/slotwright/core/Score") (F_violations_ra : Fld Z h0 ra "com/example/slotwright/slotwright/core/Score" "violations" "J" (.long (0 : Int64))) (F_cost_ra : Fld Z h0 ra "com/example/slotwright/slotwright/core/Score" "cost" "J" (.long (0 : Int64))) (hv0 : ¬ vv < 0) (hc0 : ¬ vc < 0) :
    MetFree l (⟨"com/example/slotwright/slotwright/core/Score", "<init>", "(JJ)V"⟩ : MethodName) (head1 (Jvm.Cond.code (⟨"com/example/slotwright/slotwright/core/Score", "<init>", "(JJ)V"⟩ : MethodName) prog_26_method_1_code 5 none :: ws) ({ frames := 2, cells := 0, slots := 0, locals := 24 } : Room)) (fun a U => a = #[(.ref ra), (.long vv), (.long vc)] ∧ Z.Warmed39 U.vm ∧ U.heap = h0) (fun _ _ _ _ _ => True) (fun _ U o U' => ∃ v L, o = .returned v ∧ (Q_own_minit Z ra vv vc h0 n0) v U'.heap L ∧ FrameEnd U o U' L ({ frames := 2, cells := 0, slots := 0, locals := 24 } : Room).cells ({ frames := 2, cells := 0, slots := 0, locals := 24 } : Room).slots) := by
  refine MetFree.of_bodySF (plainFor_of_name own_pn1) hisR ?_
  intro p e s m args below meth c s₁ Bd hml0 hP hK
  obtain ⟨rfl, hZ, hh⟩ := hP
  have hx := Bd.exec
  have hby := Bd.bytes
  have hret := Bd.returns
  have hlk : meth.locks = false := Bd.notSynchronized
  have hml : c.maxLocals = 5 := hml0
  have hown : s.vm.findClass "com/example/slotwright/slotwright/core/Score" = some m.cls := findClass_of_methodNamed Bd.named
  have hnm := (name_of_methodNamed Bd.named Bd.method).1
  have X0 : Stand p l e ({ frames := 2, cells := 0, slots := 0, locals := 24 } : Room) s m #[(.ref ra), (.long vv), (.long vc)] below meth c s₁ [] 0 0 := Stand.of_body Bd
  have e0 : s₁.heap = h0 := by rw [← hh, Bd.state]; rfl
  have N0 := Fr.nil n0
  have pre0 : ∀ t, Steps p.tables e below (s₁.setTop (mkF m 0 #[.val (.ref ra), .val (.long vv), .second, .val (.long vc), .second] [])) t → Steps p.tables e below (s₁.setTop (entryFrame m #[(.ref ra), (.long vv), (.long vc)] 5)) t := fun t k => castTop (ef_own_minit m ra vv vc) k
  have K0 : Keep h0 h0 [ra] := Keep.refl _ _
  show OGo p e below s (Q_own_minit Z ra vv vc h0 n0) ({ frames := 2, cells := 0, slots := 0, locals := 24 } : Room).cells ({ frames := 2, cells := 0, slots := 0, locals := 24 } : Room).slots (s₁.setTop (entryFrame m #[(.ref ra), (.long vv), (.long vc)] 5))
  refine OGo.on pre0 ?_
  show OGo p e below s _ _ _ (s₁.setTop (mkF m 0 #[.val (.ref ra), .val (.long vv), .second, .val (.long vc), .second] []))
  refine OGo.on (fun t k => XS.aloadN X0.here hx rfl (hb hby d1_0) rfl rfl k) ?_
  show OGo p e below s _ _ _ (s₁.setTop (mkF m 1 #[.val (.ref ra), .val (.long vv), .second, .val (.long vc), .second] [(.ref ra)]))
  obtain ⟨_, _, ⟨T2, L2, k2, n2⟩, -, X2, ⟨Lc2, hQ2, l2, y2, z2⟩, st2⟩ := X0.specialBack hx (y := (⟨"java/lang/Record", "<init>", "()V"⟩ : MethodName)) rfl hown (mvT hZ (hw _ (List.mem_of_getElem? (i := 7) rfl))) (mvT hZ (hw _ (List.mem_of_getElem? (i := 8) rfl))) (mvT hZ (hw _ (List.mem_of_getElem? (i := 11) rfl))) (by decide) (backOf (W := 0) (own_rec l Z a0 hw [] ra h0 n0 Z0) hZ (hw _ (List.mem_of_getElem? (i := 11) rfl)) (hw _ (List.mem_of_getElem? (i := 10) rfl)) (by decide) (by decide)) (g := (mkF m 1 #[.val (.ref ra), .val (.long vv), .second, .val (.long vc), .second] [(.ref ra)])) rfl (by rw [hml]; rfl) (Steps.refl _) (a := ra) (argsL := []) (rest := []) (lenOf own_pd0 rfl) rfl (by show 2 * 0 + _ ≤ _; exact Nat.le_of_eq rfl) (hb hby d1_1) (fun _ _ => ⟨rfl, e0, (by decide : 0 + 0 ≤ _), (by decide : 0 + 0 ≤ _)⟩)
  dsimp only [Pt.U, Pt.locs, Pt.cells, Pt.slots] at X2 l2 y2 z2 st2 hQ2
  subst l2 y2 z2
  obtain ⟨rfl, N2q, e2⟩ := hQ2
  have N2 := Fr.app N0 N2q
  refine OGo.on (fun t k => st2.trans k) ?_
  show OGo p e below s _ _ _ (T2.setTop (mkF m 4 #[.val (.ref ra), .val (.long vv), .second, .val (.long vc), .second] []))
  refine OGo.on (fun t k => XS.lloadN X2.here hx rfl (hb hby d1_4) rfl k) ?_
  show OGo p e below s _ _ _ (T2.setTop (mkF m 5 #[.val (.ref ra), .val (.long vv), .second, .val (.long vc), .second] [(.long vv)]))
  refine OGo.on (fun t k => XS.lconst X2.here hx rfl (hb hby d1_5) k) ?_
  show OGo p e below s _ _ _ (T2.setTop (mkF m 6 #[.val (.ref ra), .val (.long vv), .second, .val (.long vc), .second] [(.long (0 : Int64)), (.long vv)]))
  refine OGo.on (fun t k => XS.lcmp X2.here hx rfl (hb hby d1_6) rfl k) ?_
  show OGo p e below s _ _ _ (T2.setTop (mkF m 7 #[.val (.ref ra), .val (.long vv), .second, .val (.long vc), .second] [(.int (lcmpW vv (0 : Int64)))]))
  refine OGo.on (fun t k => XS.ifYes X2.here hx rfl (pc0 := 7) (pc' := 24) rfl (hb hby d1_7) rfl (lc_flt hv0).2.1 (by decide) (by decide) k) ?_
  show OGo p e below s _ _ _ (T2.setTop (mkF m 24 #[.val (.ref ra), .val (.long vv), .second, .val (.long vc), .second] []))
  refine OGo.on (fun t k => XS.lloadN X2.here hx rfl (hb hby d1_24) rfl k) ?_
  show OGo p e below s _ _ _ (T2.setTop (mkF m 25 #[.val (.ref ra), .val (.long vv), .second, .val (.long vc), .second] [(.long vc)]))
  refine OGo.on (fun t k => XS.lconst X2.here hx rfl (hb hby d1_25) k) ?_
  show OGo p e below s _ _ _ (T2.setTop (mkF m 26 #[.val (.ref ra), .val (.long vv), .second, .val (.long vc), .second] [(.long (0 : Int64)), (.long vc)]))
  refine OGo.on (fun t k => XS.lcmp X2.here hx rfl (hb hby d1_26) rfl k) ?_
  show OGo p e below s _ _ _ (T2.setTop (mkF m 27 #[.val (.ref ra), .val (.long vv), .second, .val (.long vc), .second] [(.int (lcmpW vc (0 : Int64)))]))
  refine OGo.on (fun t k => XS.ifYes X2.here hx rfl (pc0 := 27) (pc' := 44) rfl (hb hby d1_27) rfl (lc_flt hc0).2.1 (by decide) (by decide) k) ?_
  show OGo p e below s _ _ _ (T2.setTop (mkF m 44 #[.val (.ref ra), .val (.long vv), .second, .val (.long vc), .second] []))
  refine OGo.on (fun t k => XS.aloadN X2.here hx rfl (hb hby d1_44) rfl rfl k) ?_
  show OGo p e below s _ _ _ (T2.setTop (mkF m 45 #[.val (.ref ra), .val (.long vv), .second, .val (.long vc), .second] [(.ref ra)]))
  refine OGo.on (fun t k => XS.lloadN X2.here hx rfl (hb hby d1_45) rfl k) ?_
  show OGo p e below s _ _ _ (T2.setTop (mkF m 46 #[.val (.ref ra), .val (.long vv), .second, .val (.long vc), .second] [(.long vv), (.ref ra)]))
  obtain ⟨T3, h3, X3, e3, W3, st3⟩ := putF X2 hx hZ hown (host := "") (Or.inl (hw _ (List.mem_of_getElem? (i := 15) rfl))) Via.refl e2 F_violations_ra E_ra (Or.inr ⟨(hw _ (List.mem_of_getElem? (i := 16) rfl)), rfl, hnm⟩) (hw _ (List.mem_of_getElem? (i := 2) rfl)) (ty := .long) (by decide) rfl rfl (g := (mkF m 46 #[.val (.ref ra), .val (.long vv), .second, .val (.long vc), .second] [(.long vv), (.ref ra)])) rfl rfl (hb hby d1_46)
  have f4 : Exa Z h3 ra "com/example/slotwright/slotwright/core/Score" := E_ra.wr W3
  have f5 : Fld Z h3 ra "com/example/slotwright/slotwright/core/Score" "cost" "J" (.long (0 : Int64)) := F_cost_ra.other W3 (Or.inr (slot_ne (Or.inr (hw _ (List.mem_of_getElem? (i := 18) rfl))) (Or.inr (hw _ (List.mem_of_getElem? (i := 16) rfl))) (by decide) (t := .long) (t' := .long) (by decide) (by decide)))
  have Z6 : n0 ≤ h3.size := Nat.le_trans Z0 (Nat.le_of_eq W3.size.symm)
  have N7 := Fr.snoc X3 N2 g_ra
  have K8 : Keep h0 h3 [ra] := K0.wr W3 (Or.inl (List.mem_of_getElem? (i := 0) rfl))
  have f9 : Fld Z h3 ra "com/example/slotwright/slotwright/core/Score" "violations" "J" (.long vv) := F_violations_ra.same W3
  refine OGo.on st3 ?_
  show OGo p e below s _ _ _ (T3.setTop (mkF m 49 #[.val (.ref ra), .val (.long vv), .second, .val (.long vc), .second] []))
  refine OGo.on (fun t k => XS.aloadN X3.here hx rfl (hb hby d1_49) rfl rfl k) ?_
  show OGo p e below s _ _ _ (T3.setTop (mkF m 50 #[.val (.ref ra), .val (.long vv), .second, .val (.long vc), .second] [(.ref ra)]))
  refine OGo.on (fun t k => XS.lloadN X3.here hx rfl (hb hby d1_50) rfl k) ?_
  show OGo p e below s _ _ _ (T3.setTop (mkF m 51 #[.val (.ref ra), .val (.long vv), .second, .val (.long vc), .second] [(.long vc), (.ref ra)]))
  obtain ⟨T10, h10, X10, e10, W10, st10⟩ := putF X3 hx hZ hown (host := "") (Or.inl (hw _ (List.mem_of_getElem? (i := 17) rfl))) Via.refl e3 f5 f4 (Or.inr ⟨(hw _ (List.mem_of_getElem? (i := 18) rfl)), rfl, hnm⟩) (hw _ (List.mem_of_getElem? (i := 2) rfl)) (ty := .long) (by decide) rfl rfl (g := (mkF m 51 #[.val (.ref ra), .val (.long vv), .second, .val (.long vc), .second] [(.long vc), (.ref ra)])) rfl rfl (hb hby d1_51)
  have f11 : Exa Z h10 ra "com/example/slotwright/slotwright/core/Score" := f4.wr W10
  have f12 : Fld Z h10 ra "com/example/slotwright/slotwright/core/Score" "violations" "J" (.long vv) := f9.other W10 (Or.inr (slot_ne (Or.inr (hw _ (List.mem_of_getElem? (i := 16) rfl))) (Or.inr (hw _ (List.mem_of_getElem? (i := 18) rfl))) (by decide) (t := .long) (t' := .long) (by decide) (by decide)))
  have Z13 : n0 ≤ h10.size := Nat.le_trans Z6 (Nat.le_of_eq W10.size.symm)
  have N14 := Fr.snoc X10 N7 g_ra
  have K15 : Keep h0 h10 [ra] := K8.wr W10 (Or.inl (List.mem_of_getElem? (i := 0) rfl))
  have f16 : Fld Z h10 ra "com/example/slotwright/slotwright/core/Score" "cost" "J" (.long vc) := f5.same W10
  refine OGo.on st10 ?_
  show OGo p e below s _ _ _ (T10.setTop (mkF m 54 #[.val (.ref ra), .val (.long vv), .second, .val (.long vc), .second] []))
  exact OGo.ret0 X10 hx hret hlk (hb hby d1_54) ⟨rfl, N14, by rw [e10]; exact K15, by rw [e10]; exact f12, by rw [e10]; exact f16⟩ (by decide) (by decide)
theorem own_pn2 : plainName "java/lang/Long" = true := by first | (simp [plainName, overriddenIn]; done) | decide +kernel
theorem ef_own_mcmp (m : MethodId) (x0 : Int64) (x1 : Int64) : entryFrame m #[(.long x0), (.long x1)] 4 = mkF m 0 #[.val (.long x0), .second, .val (.long x1), .second] [] := by first | (simp [entryFrame, mkF, argsToLocals, Value.category]; done) | rfl
theorem d6_0 : decode jdk_35_method_42_code 0 = .ok (.lload_n 0, 1) := by decide +kernel
theorem d6_1 : decode jdk_35_method_42_code 1 = .ok (.lload_n 2, 1) := by decide +kernel
theorem d6_2 : decode jdk_35_method_42_code 2 = .ok (.lcmp, 1) := by decide +kernel
theorem d6_3 : decode jdk_35_method_42_code 3 = .ok (.ifCond .ge 7, 3) := by decide +kernel
theorem d6_6 : decode jdk_35_method_42_code 6 = .ok (.iconst (-1), 1) := by decide +kernel
theorem d6_7 : decode jdk_35_method_42_code 7 = .ok (.goto 14, 3) := by decide +kernel
theorem d6_10 : decode jdk_35_method_42_code 10 = .ok (.lload_n 0, 1) := by decide +kernel
theorem d6_11 : decode jdk_35_method_42_code 11 = .ok (.lload_n 2, 1) := by decide +kernel
theorem d6_12 : decode jdk_35_method_42_code 12 = .ok (.lcmp, 1) := by decide +kernel
theorem d6_13 : decode jdk_35_method_42_code 13 = .ok (.ifCond .ne 7, 3) := by decide +kernel
theorem d6_16 : decode jdk_35_method_42_code 16 = .ok (.iconst 0, 1) := by decide +kernel
theorem d6_17 : decode jdk_35_method_42_code 17 = .ok (.goto 4, 3) := by decide +kernel
theorem d6_20 : decode jdk_35_method_42_code 20 = .ok (.iconst 1, 1) := by decide +kernel
theorem d6_21 : decode jdk_35_method_42_code 21 = .ok (.ireturn, 1) := by decide +kernel
set_option maxRecDepth 65536 in
set_option maxHeartbeats 40000000 in
theorem own_mcmp (l : Launch) (Z : State) (a0 : Array Value) (hw : ∀ d ∈ tables_1, d.before a0 Z = true) (ws : List Jvm.Cond) (vx vy : Int64) (h0 : Heap) (n0 : Nat) (Z0 : n0 ≤ h0.size)  :
    MetFree l (⟨"java/lang/Long", "compare", "(JJ)I"⟩ : MethodName) (head1 (Jvm.Cond.code (⟨"java/lang/Long", "compare", "(JJ)I"⟩ : MethodName) jdk_35_method_42_code 4 (some .int) :: ws) ({ frames := 0, cells := 0, slots := 0, locals := 0 } : Room)) (fun a U => a = #[(.long vx), (.long vy)] ∧ Z.Warmed39 U.vm ∧ U.heap = h0) (fun _ _ _ _ _ => True) (fun _ U o U' => ∃ v L, o = .returned v ∧ (OPure n0 h0 (some (.int (own_cmp vx vy)))) v U'.heap L ∧ FrameEnd U o U' L ({ frames := 0, cells := 0, slots := 0, locals := 0 } : Room).cells ({ frames := 0, cells := 0, slots := 0, locals := 0 } : Room).slots) := by
  refine MetFree.of_bodySF (plainFor_of_name own_pn2) hisR ?_
  intro p e s m args below meth c s₁ Bd hml0 hP hK
  obtain ⟨rfl, hZ, hh⟩ := hP
  have hx := Bd.exec
  have hby := Bd.bytes
  have hret := Bd.returns
  have hlk : meth.locks = false := Bd.notSynchronized
  have hml : c.maxLocals = 4 := hml0
  have hown : s.vm.findClass "java/lang/Long" = some m.cls := findClass_of_methodNamed Bd.named
  have hnm := (name_of_methodNamed Bd.named Bd.method).1
  have X0 : Stand p l e ({ frames := 0, cells := 0, slots := 0, locals := 0 } : Room) s m #[(.long vx), (.long vy)] below meth c s₁ [] 0 0 := Stand.of_body Bd
  have e0 : s₁.heap = h0 := by rw [← hh, Bd.state]; rfl
  have N0 := Fr.nil n0
  have pre0 : ∀ t, Steps p.tables e below (s₁.setTop (mkF m 0 #[.val (.long vx), .second, .val (.long vy), .second] [])) t → Steps p.tables e below (s₁.setTop (entryFrame m #[(.long vx), (.long vy)] 4)) t := fun t k => castTop (ef_own_mcmp m vx vy) k
  show OGo p e below s (OPure n0 h0 (some (.int (own_cmp vx vy)))) ({ frames := 0, cells := 0, slots := 0, locals := 0 } : Room).cells ({ frames := 0, cells := 0, slots := 0, locals := 0 } : Room).slots (s₁.setTop (entryFrame m #[(.long vx), (.long vy)] 4))
  refine OGo.on pre0 ?_
  show OGo p e below s _ _ _ (s₁.setTop (mkF m 0 #[.val (.long vx), .second, .val (.long vy), .second] []))
  refine OGo.on (fun t k => XS.lloadN X0.here hx rfl (hb hby d6_0) rfl k) ?_
  show OGo p e below s _ _ _ (s₁.setTop (mkF m 1 #[.val (.long vx), .second, .val (.long vy), .second] [(.long vx)]))
  refine OGo.on (fun t k => XS.lloadN X0.here hx rfl (hb hby d6_1) rfl k) ?_
  show OGo p e below s _ _ _ (s₁.setTop (mkF m 2 #[.val (.long vx), .second, .val (.long vy), .second] [(.long vy), (.long vx)]))
  refine OGo.on (fun t k => XS.lcmp X0.here hx rfl (hb hby d6_2) rfl k) ?_
  show OGo p e below s _ _ _ (s₁.setTop (mkF m 3 #[.val (.long vx), .second, .val (.long vy), .second] [(.int (lcmpW vx vy))]))
  by_cases hc17 : vx < vy
  · refine OGo.on (fun t k => XS.ifNo X0.here hx rfl (hb hby d6_3) rfl (lc_tlt hc17).2.1 k) ?_
    show OGo p e below s _ _ _ (s₁.setTop (mkF m 6 #[.val (.long vx), .second, .val (.long vy), .second] []))
    refine OGo.on (fun t k => XS.iconst X0.here hx rfl (hb hby d6_6) k) ?_
    show OGo p e below s _ _ _ (s₁.setTop (mkF m 7 #[.val (.long vx), .second, .val (.long vy), .second] [(.int (-1 : Int32))]))
    refine OGo.on (fun t k => XS.goto X0.here hx rfl (pc0 := 7) (pc' := 21) rfl (hb hby d6_7) (by decide) (by decide) k) ?_
    show OGo p e below s _ _ _ (s₁.setTop (mkF m 21 #[.val (.long vx), .second, .val (.long vy), .second] [(.int (-1 : Int32))]))
    exact OGo.retI X0 hx hret hlk (hb hby d6_21) (opI (by simp [own_cmp, hc17]) N0 e0) (by decide) (by decide)
  · refine OGo.on (fun t k => XS.ifYes X0.here hx rfl (pc0 := 3) (pc' := 10) rfl (hb hby d6_3) rfl (lc_flt hc17).2.1 (by decide) (by decide) k) ?_
    show OGo p e below s _ _ _ (s₁.setTop (mkF m 10 #[.val (.long vx), .second, .val (.long vy), .second] []))
    refine OGo.on (fun t k => XS.lloadN X0.here hx rfl (hb hby d6_10) rfl k) ?_
    show OGo p e below s _ _ _ (s₁.setTop (mkF m 11 #[.val (.long vx), .second, .val (.long vy), .second] [(.long vx)]))
    refine OGo.on (fun t k => XS.lloadN X0.here hx rfl (hb hby d6_11) rfl k) ?_
    show OGo p e below s _ _ _ (s₁.setTop (mkF m 12 #[.val (.long vx), .second, .val (.long vy), .second] [(.long vy), (.long vx)]))
    refine OGo.on (fun t k => XS.lcmp X0.here hx rfl (hb hby d6_12) rfl k) ?_
    show OGo p e below s _ _ _ (s₁.setTop (mkF m 13 #[.val (.long vx), .second, .val (.long vy), .second] [(.int (lcmpW vx vy))]))
    by_cases hc18 : vx = vy
    · refine OGo.on (fun t k => XS.ifNo X0.here hx rfl (hb hby d6_13) rfl (lc_teq hc18).2 k) ?_
      show OGo p e below s _ _ _ (s₁.setTop (mkF m 16 #[.val (.long vx), .second, .val (.long vy), .second] []))
      refine OGo.on (fun t k => XS.iconst X0.here hx rfl (hb hby d6_16) k) ?_
      show OGo p e below s _ _ _ (s₁.setTop (mkF m 17 #[.val (.long vx), .second, .val (.long vy), .second] [(.int (0 : Int32))]))
      refine OGo.on (fun t k => XS.goto X0.here hx rfl (pc0 := 17) (pc' := 21) rfl (hb hby d6_17) (by decide) (by decide) k) ?_
      show OGo p e below s _ _ _ (s₁.setTop (mkF m 21 #[.val (.long vx), .second, .val (.long vy), .second] [(.int (0 : Int32))]))
      exact OGo.retI X0 hx hret hlk (hb hby d6_21) (opI (by simp [own_cmp, hc17, hc18]) N0 e0) (by decide) (by decide)
    · refine OGo.on (fun t k => XS.ifYes X0.here hx rfl (pc0 := 13) (pc' := 20) rfl (hb hby d6_13) rfl (lc_feq hc18).2 (by decide) (by decide) k) ?_
      show OGo p e below s _ _ _ (s₁.setTop (mkF m 20 #[.val (.long vx), .second, .val (.long vy), .second] []))
      refine OGo.on (fun t k => XS.iconst X0.here hx rfl (hb hby d6_20) k) ?_
      show OGo p e below s _ _ _ (s₁.setTop (mkF m 21 #[.val (.long vx), .second, .val (.long vy), .second] [(.int (1 : Int32))]))
      exact OGo.retI X0 hx hret hlk (hb hby d6_21) (opI (by simp [own_cmp, hc17, hc18]) N0 e0) (by decide) (by decide)
theorem ef_own_mhv (m : MethodId) (x0 : Addr) : entryFrame m #[(.ref x0)] 1 = mkF m 0 #[.val (.ref x0)] [] := by first | (simp [entryFrame, mkF, argsToLocals, Value.category]; done) | rfl
theorem d4_0 : decode prog_26_method_2_code 0 = .ok (.aload_n 0, 1) := by decide +kernel
theorem d4_1 : decode prog_26_method_2_code 1 = .ok (.getfield 17, 3) := by decide +kernel
theorem d4_4 : decode prog_26_method_2_code 4 = .ok (.lconst 0, 1) := by decide +kernel
theorem d4_5 : decode prog_26_method_2_code 5 = .ok (.lcmp, 1) := by decide +kernel
theorem d4_6 : decode prog_26_method_2_code 6 = .ok (.ifCond .le 7, 3) := by decide +kernel
theorem d4_9 : decode prog_26_method_2_code 9 = .ok (.iconst 1, 1) := by decide +kernel
theorem d4_10 : decode prog_26_method_2_code 10 = .ok (.goto 4, 3) := by decide +kernel
theorem d4_13 : decode prog_26_method_2_code 13 = .ok (.iconst 0, 1) := by decide +kernel
theorem d4_14 : decode prog_26_method_2_code 14 = .ok (.ireturn, 1) := by decide +kernel
set_option maxRecDepth 65536 in
set_option maxHeartbeats 40000000 in
theorem own_mhv (l : Launch) (Z : State) (a0 : Array Value) (hw : ∀ d ∈ tables_1, d.before a0 Z = true) (ws : List Jvm.Cond) (ra : Addr) (vv : Int64) (h0 : Heap) (n0 : Nat) (Z0 : n0 ≤ h0.size) (F_violations_ra : Fld Z h0 ra "com/example/slotwright/slotwright/core/Score" "violations" "J" (.long vv))  :
    MetFree l (⟨"com/example/slotwright/slotwright/core/Score", "hasHardViolations", "()Z"⟩ : MethodName) (head1 (Jvm.Cond.code (⟨"com/example/slotwright/slotwright/core/Score", "hasHardViolations", "()Z"⟩ : MethodName) prog_26_method_2_code 1 (some .boolean) :: ws) ({ frames := 0, cells := 0, slots := 0, locals := 0 } : Room)) (fun a U => a = #[(.ref ra)] ∧ Z.Warmed39 U.vm ∧ U.heap = h0) (fun _ _ _ _ _ => True) (fun _ U o U' => ∃ v L, o = .returned v ∧ (OPure n0 h0 (some (.int (own_hv vv)))) v U'.heap L ∧ FrameEnd U o U' L ({ frames := 0, cells := 0, slots := 0, locals := 0 } : Room).cells ({ frames := 0, cells := 0, slots := 0, locals := 0 } : Room).slots) := by
  refine MetFree.of_bodySF (plainFor_of_name own_pn1) hisR ?_
  intro p e s m args below meth c s₁ Bd hml0 hP hK
  obtain ⟨rfl, hZ, hh⟩ := hP
  have hx := Bd.exec
  have hby := Bd.bytes
  have hret := Bd.returns
  have hlk : meth.locks = false := Bd.notSynchronized
  have hml : c.maxLocals = 1 := hml0
  have hown : s.vm.findClass "com/example/slotwright/slotwright/core/Score" = some m.cls := findClass_of_methodNamed Bd.named
  have hnm := (name_of_methodNamed Bd.named Bd.method).1
  have X0 : Stand p l e ({ frames := 0, cells := 0, slots := 0, locals := 0 } : Room) s m #[(.ref ra)] below meth c s₁ [] 0 0 := Stand.of_body Bd
  have e0 : s₁.heap = h0 := by rw [← hh, Bd.state]; rfl
  have N0 := Fr.nil n0
  have pre0 : ∀ t, Steps p.tables e below (s₁.setTop (mkF m 0 #[.val (.ref ra)] [])) t → Steps p.tables e below (s₁.setTop (entryFrame m #[(.ref ra)] 1)) t := fun t k => castTop (ef_own_mhv m ra) k
  show OGo p e below s (OPure n0 h0 (some (.int (own_hv vv)))) ({ frames := 0, cells := 0, slots := 0, locals := 0 } : Room).cells ({ frames := 0, cells := 0, slots := 0, locals := 0 } : Room).slots (s₁.setTop (entryFrame m #[(.ref ra)] 1))
  refine OGo.on pre0 ?_
  show OGo p e below s _ _ _ (s₁.setTop (mkF m 0 #[.val (.ref ra)] []))
  refine OGo.on (fun t k => XS.aloadN X0.here hx rfl (hb hby d4_0) rfl rfl k) ?_
  show OGo p e below s _ _ _ (s₁.setTop (mkF m 1 #[.val (.ref ra)] [(.ref ra)]))
  obtain ⟨T19, X19, e19, st19⟩ := getF X0 hx hZ hown (host := "") (Or.inl (hw _ (List.mem_of_getElem? (i := 15) rfl))) Via.refl e0 F_violations_ra (g := (mkF m 1 #[.val (.ref ra)] [(.ref ra)])) rfl rfl (hb hby d4_1)
  refine OGo.on st19 ?_
  show OGo p e below s _ _ _ (T19.setTop (mkF m 4 #[.val (.ref ra)] [(.long vv)]))
  refine OGo.on (fun t k => XS.lconst X19.here hx rfl (hb hby d4_4) k) ?_
  show OGo p e below s _ _ _ (T19.setTop (mkF m 5 #[.val (.ref ra)] [(.long (0 : Int64)), (.long vv)]))
  refine OGo.on (fun t k => XS.lcmp X19.here hx rfl (hb hby d4_5) rfl k) ?_
  show OGo p e below s _ _ _ (T19.setTop (mkF m 6 #[.val (.ref ra)] [(.int (lcmpW vv (0 : Int64)))]))
  by_cases hc20 : (0 : Int64) < vv
  · refine OGo.on (fun t k => XS.ifNo X19.here hx rfl (hb hby d4_6) rfl (lc_tlt hc20).2.2.2 k) ?_
    show OGo p e below s _ _ _ (T19.setTop (mkF m 9 #[.val (.ref ra)] []))
    refine OGo.on (fun t k => XS.iconst X19.here hx rfl (hb hby d4_9) k) ?_
    show OGo p e below s _ _ _ (T19.setTop (mkF m 10 #[.val (.ref ra)] [(.int (1 : Int32))]))
    refine OGo.on (fun t k => XS.goto X19.here hx rfl (pc0 := 10) (pc' := 14) rfl (hb hby d4_10) (by decide) (by decide) k) ?_
    show OGo p e below s _ _ _ (T19.setTop (mkF m 14 #[.val (.ref ra)] [(.int (1 : Int32))]))
    exact OGo.retN X19 hx (t := .boolean) hret hlk (by simp) (hb hby d4_14) (opI (by rw [own_nz1]; simp [own_hv, hc20]) N0 e19) (by decide) (by decide)
  · refine OGo.on (fun t k => XS.ifYes X19.here hx rfl (pc0 := 6) (pc' := 13) rfl (hb hby d4_6) rfl (lc_flt hc20).2.2.2 (by decide) (by decide) k) ?_
    show OGo p e below s _ _ _ (T19.setTop (mkF m 13 #[.val (.ref ra)] []))
    refine OGo.on (fun t k => XS.iconst X19.here hx rfl (hb hby d4_13) k) ?_
    show OGo p e below s _ _ _ (T19.setTop (mkF m 14 #[.val (.ref ra)] [(.int (0 : Int32))]))
    exact OGo.retN X19 hx (t := .boolean) hret hlk (by simp) (hb hby d4_14) (opI (by rw [own_nz0]; simp [own_hv, hc20]) N0 e19) (by decide) (by decide)
theorem own_pd1 : parseMethodDescriptor "(JJ)I" = some ⟨[.long, .long], some .int⟩ := by decide +kernel
theorem ef_own_mct (m : MethodId) (x0 : Addr) (x1 : Addr) : entryFrame m #[(.ref x0), (.ref x1)] 3 = mkF m 0 #[.val (.ref x0), .val (.ref x1), .unset] [] := by first | (simp [entryFrame, mkF, argsToLocals, Value.category]; done) | rfl
theorem d5_0 : decode prog_26_method_3_code 0 = .ok (.aload_n 0, 1) := by decide +kernel
theorem d5_1 : decode prog_26_method_3_code 1 = .ok (.getfield 17, 3) := by decide +kernel
theorem d5_4 : decode prog_26_method_3_code 4 = .ok (.aload_n 1, 1) := by decide +kernel
theorem d5_5 : decode prog_26_method_3_code 5 = .ok (.getfield 17, 3) := by decide +kernel
theorem d5_8 : decode prog_26_method_3_code 8 = .ok (.lcmp, 1) := by decide +kernel
theorem d5_9 : decode prog_26_method_3_code 9 = .ok (.ifCond .eq 18, 3) := by decide +kernel
theorem d5_12 : decode prog_26_method_3_code 12 = .ok (.aload_n 0, 1) := by decide +kernel
theorem d5_13 : decode prog_26_method_3_code 13 = .ok (.getfield 17, 3) := by decide +kernel
theorem d5_16 : decode prog_26_method_3_code 16 = .ok (.aload_n 1, 1) := by decide +kernel
theorem d5_17 : decode prog_26_method_3_code 17 = .ok (.getfield 17, 3) := by decide +kernel
theorem d5_20 : decode prog_26_method_3_code 20 = .ok (.invokestatic 26, 3) := by decide +kernel
theorem d5_23 : decode prog_26_method_3_code 23 = .ok (.istore_n 2, 1) := by decide +kernel
theorem d5_24 : decode prog_26_method_3_code 24 = .ok (.goto 15, 3) := by decide +kernel
theorem d5_27 : decode prog_26_method_3_code 27 = .ok (.aload_n 0, 1) := by decide +kernel
theorem d5_28 : decode prog_26_method_3_code 28 = .ok (.getfield 23, 3) := by decide +kernel
theorem d5_31 : decode prog_26_method_3_code 31 = .ok (.aload_n 1, 1) := by decide +kernel
theorem d5_32 : decode prog_26_method_3_code 32 = .ok (.getfield 23, 3) := by decide +kernel
theorem d5_35 : decode prog_26_method_3_code 35 = .ok (.invokestatic 26, 3) := by decide +kernel
theorem d5_38 : decode prog_26_method_3_code 38 = .ok (.istore_n 2, 1) := by decide +kernel
theorem d5_39 : decode prog_26_method_3_code 39 = .ok (.iload_n 2, 1) := by decide +kernel
theorem d5_40 : decode prog_26_method_3_code 40 = .ok (.ireturn, 1) := by decide +kernel
set_option maxRecDepth 65536 in
set_option maxHeartbeats 40000000 in
theorem own_mct (l : Launch) (Z : State) (a0 : Array Value) (hw : ∀ d ∈ tables_1, d.before a0 Z = true) (ws : List Jvm.Cond) (ra rb : Addr) (vv vc wv wc : Int64) (h0 : Heap) (n0 : Nat) (Z0 : n0 ≤ h0.size) (F_violations_ra : Fld Z h0 ra "com/example/slotwright/slotwright/core/Score" "violations" "J" (.long vv)) (F_cost_ra : Fld Z h0 ra "com/example/slotwright/slotwright/core/Score" "cost" "J" (.long vc)) (F_violations_rb : Fld Z h0 rb "com/example/slotwright/slotwright/core/Score" "violations" "J" (.long wv)) (F_cost_rb : Fld Z h0 rb "com/example/slotwright/slotwright/core/Score" "cost" "J" (.long wc))  :
    MetFree l (⟨"com/example/slotwright/slotwright/core/Score", "compareTo", "(Lcom/example/slotwright/slotwright/core/Score;)I"⟩ : MethodName) (head1 (Jvm.Cond.code (⟨"com/example/slotwright/slotwright/core/Score", "compareTo", "(Lcom/example/slotwright/slotwright/core/Score;)I"⟩ : MethodName) prog_26_method_3_code 3 (some .int) :: ws) ({ frames := 1, cells := 0, slots := 0, locals := 15 } : Room)) (fun a U => a = #[(.ref ra), (.ref rb)] ∧ Z.Warmed39 U.vm ∧ U.heap = h0) (fun _ _ _ _ _ => True) (fun _ U o U' => ∃ v L, o = .returned v ∧ (OPure n0 h0 (some (.int (own_ct vv vc wv wc)))) v U'.heap L ∧ FrameEnd U o U' L ({ frames := 1, cells := 0, slots := 0, locals := 15 } : Room).cells ({ frames := 1, cells := 0, slots := 0, locals := 15 } : Room).slots) := by
  refine MetFree.of_bodySF (plainFor_of_name own_pn1) hisR ?_
  intro p e s m args below meth c s₁ Bd hml0 hP hK
  obtain ⟨rfl, hZ, hh⟩ := hP
  have hx := Bd.exec
  have hby := Bd.bytes
  have hret := Bd.returns
  have hlk : meth.locks = false := Bd.notSynchronized
  have hml : c.maxLocals = 3 := hml0
  have hown : s.vm.findClass "com/example/slotwright/slotwright/core/Score" = some m.cls := findClass_of_methodNamed Bd.named
  have hnm := (name_of_methodNamed Bd.named Bd.method).1
  have X0 : Stand p l e ({ frames := 1, cells := 0, slots := 0, locals := 15 } : Room) s m #[(.ref ra), (.ref rb)] below meth c s₁ [] 0 0 := Stand.of_body Bd
  have e0 : s₁.heap = h0 := by rw [← hh, Bd.state]; rfl
  have N0 := Fr.nil n0
  have pre0 : ∀ t, Steps p.tables e below (s₁.setTop (mkF m 0 #[.val (.ref ra), .val (.ref rb), .unset] [])) t → Steps p.tables e below (s₁.setTop (entryFrame m #[(.ref ra), (.ref rb)] 3)) t := fun t k => castTop (ef_own_mct m ra rb) k
  show OGo p e below s (OPure n0 h0 (some (.int (own_ct vv vc wv wc)))) ({ frames := 1, cells := 0, slots := 0, locals := 15 } : Room).cells ({ frames := 1, cells := 0, slots := 0, locals := 15 } : Room).slots (s₁.setTop (entryFrame m #[(.ref ra), (.ref rb)] 3))
  refine OGo.on pre0 ?_
  show OGo p e below s _ _ _ (s₁.setTop (mkF m 0 #[.val (.ref ra), .val (.ref rb), .unset] []))
  refine OGo.on (fun t k => XS.aloadN X0.here hx rfl (hb hby d5_0) rfl rfl k) ?_
  show OGo p e below s _ _ _ (s₁.setTop (mkF m 1 #[.val (.ref ra), .val (.ref rb), .unset] [(.ref ra)]))
  obtain ⟨T21, X21, e21, st21⟩ := getF X0 hx hZ hown (host := "") (Or.inl (hw _ (List.mem_of_getElem? (i := 15) rfl))) Via.refl e0 F_violations_ra (g := (mkF m 1 #[.val (.ref ra), .val (.ref rb), .unset] [(.ref ra)])) rfl rfl (hb hby d5_1)
  refine OGo.on st21 ?_
  show OGo p e below s _ _ _ (T21.setTop (mkF m 4 #[.val (.ref ra), .val (.ref rb), .unset] [(.long vv)]))
  refine OGo.on (fun t k => XS.aloadN X21.here hx rfl (hb hby d5_4) rfl rfl k) ?_
  show OGo p e below s _ _ _ (T21.setTop (mkF m 5 #[.val (.ref ra), .val (.ref rb), .unset] [(.ref rb), (.long vv)]))
  obtain ⟨T22, X22, e22, st22⟩ := getF X21 hx hZ hown (host := "") (Or.inl (hw _ (List.mem_of_getElem? (i := 15) rfl))) Via.refl e21 F_violations_rb (g := (mkF m 5 #[.val (.ref ra), .val (.ref rb), .unset] [(.ref rb), (.long vv)])) rfl rfl (hb hby d5_5)
  refine OGo.on st22 ?_
  show OGo p e below s _ _ _ (T22.setTop (mkF m 8 #[.val (.ref ra), .val (.ref rb), .unset] [(.long wv), (.long vv)]))
  refine OGo.on (fun t k => XS.lcmp X22.here hx rfl (hb hby d5_8) rfl k) ?_
  show OGo p e below s _ _ _ (T22.setTop (mkF m 9 #[.val (.ref ra), .val (.ref rb), .unset] [(.int (lcmpW vv wv))]))
  by_cases hc23 : vv = wv
  · refine OGo.on (fun t k => XS.ifYes X22.here hx rfl (pc0 := 9) (pc' := 27) rfl (hb hby d5_9) rfl (lc_teq hc23).1 (by decide) (by decide) k) ?_
    show OGo p e below s _ _ _ (T22.setTop (mkF m 27 #[.val (.ref ra), .val (.ref rb), .unset] []))
    refine OGo.on (fun t k => XS.aloadN X22.here hx rfl (hb hby d5_27) rfl rfl k) ?_
    show OGo p e below s _ _ _ (T22.setTop (mkF m 28 #[.val (.ref ra), .val (.ref rb), .unset] [(.ref ra)]))
    obtain ⟨T24, X24, e24, st24⟩ := getF X22 hx hZ hown (host := "") (Or.inl (hw _ (List.mem_of_getElem? (i := 17) rfl))) Via.refl e22 F_cost_ra (g := (mkF m 28 #[.val (.ref ra), .val (.ref rb), .unset] [(.ref ra)])) rfl rfl (hb hby d5_28)
    refine OGo.on st24 ?_
    show OGo p e below s _ _ _ (T24.setTop (mkF m 31 #[.val (.ref ra), .val (.ref rb), .unset] [(.long vc)]))
    refine OGo.on (fun t k => XS.aloadN X24.here hx rfl (hb hby d5_31) rfl rfl k) ?_
    show OGo p e below s _ _ _ (T24.setTop (mkF m 32 #[.val (.ref ra), .val (.ref rb), .unset] [(.ref rb), (.long vc)]))
    obtain ⟨T25, X25, e25, st25⟩ := getF X24 hx hZ hown (host := "") (Or.inl (hw _ (List.mem_of_getElem? (i := 17) rfl))) Via.refl e24 F_cost_rb (g := (mkF m 32 #[.val (.ref ra), .val (.ref rb), .unset] [(.ref rb), (.long vc)])) rfl rfl (hb hby d5_32)
    refine OGo.on st25 ?_
    show OGo p e below s _ _ _ (T25.setTop (mkF m 35 #[.val (.ref ra), .val (.ref rb), .unset] [(.long wc), (.long vc)]))
    obtain ⟨_, _, ⟨T26, L26, k26, n26⟩, -, X26, ⟨Lc26, hQ26, l26, y26, z26⟩, st26⟩ := Jvm.LawKit.callS X25 hx (y := (⟨"java/lang/Long", "compare", "(JJ)I"⟩ : MethodName)) hown (mvT hZ (hw _ (List.mem_of_getElem? (i := 29) rfl))) (mvT hZ (hw _ (List.mem_of_getElem? (i := 30) rfl))) (mvT hZ (hw _ (List.mem_of_getElem? (i := 31) rfl))) (mvT hZ (hw _ (List.mem_of_getElem? (i := 32) rfl))) (by decide) (backOf (W := 0) (own_mcmp l Z a0 hw [] vc wc h0 n0 Z0) hZ (hw _ (List.mem_of_getElem? (i := 32) rfl)) (hw _ (List.mem_of_getElem? (i := 31) rfl)) (by decide) (by decide)) (g := (mkF m 35 #[.val (.ref ra), .val (.ref rb), .unset] [(.long wc), (.long vc)])) rfl (by rw [hml]; rfl) (argsL := [(.long vc), (.long wc)]) (rest := []) (lenOf own_pd1 rfl) rfl (by show 2 * 0 + _ ≤ _; exact Nat.le_of_eq rfl) (hb hby d5_35) (fun _ _ => ⟨rfl, e25, (by decide : 0 + 0 ≤ _), (by decide : 0 + 0 ≤ _)⟩)
    dsimp only [Pt.U, Pt.locs, Pt.cells, Pt.slots] at X26 l26 y26 z26 st26 hQ26
    subst l26 y26 z26
    obtain ⟨rfl, N26q, e26⟩ := hQ26
    have N26 := Fr.app N0 N26q
    refine OGo.on st26 ?_
    show OGo p e below s _ _ _ (T26.setTop (mkF m 38 #[.val (.ref ra), .val (.ref rb), .unset] [(.int (own_cmp vc wc))]))
    refine OGo.on (fun t k => XS.istoreN X26.here hx rfl (hb hby d5_38) rfl (l' := #[.val (.ref ra), .val (.ref rb), .val (.int (own_cmp vc wc))]) rfl k) ?_
    show OGo p e below s _ _ _ (T26.setTop (mkF m 39 #[.val (.ref ra), .val (.ref rb), .val (.int (own_cmp vc wc))] []))
    refine OGo.on (fun t k => XS.iloadN X26.here hx rfl (hb hby d5_39) rfl k) ?_
    show OGo p e below s _ _ _ (T26.setTop (mkF m 40 #[.val (.ref ra), .val (.ref rb), .val (.int (own_cmp vc wc))] [(.int (own_cmp vc wc))]))
    exact OGo.retI X26 hx hret hlk (hb hby d5_40) (opI (by simp [own_ct, hc23]) N26 e26) (by decide) (by decide)
  · refine OGo.on (fun t k => XS.ifNo X22.here hx rfl (hb hby d5_9) rfl (lc_feq hc23).1 k) ?_
    show OGo p e below s _ _ _ (T22.setTop (mkF m 12 #[.val (.ref ra), .val (.ref rb), .unset] []))
    refine OGo.on (fun t k => XS.aloadN X22.here hx rfl (hb hby d5_12) rfl rfl k) ?_
    show OGo p e below s _ _ _ (T22.setTop (mkF m 13 #[.val (.ref ra), .val (.ref rb), .unset] [(.ref ra)]))
    obtain ⟨T27, X27, e27, st27⟩ := getF X22 hx hZ hown (host := "") (Or.inl (hw _ (List.mem_of_getElem? (i := 15) rfl))) Via.refl e22 F_violations_ra (g := (mkF m 13 #[.val (.ref ra), .val (.ref rb), .unset] [(.ref ra)])) rfl rfl (hb hby d5_13)
    refine OGo.on st27 ?_
    show OGo p e below s _ _ _ (T27.setTop (mkF m 16 #[.val (.ref ra), .val (.ref rb), .unset] [(.long vv)]))
    refine OGo.on (fun t k => XS.aloadN X27.here hx rfl (hb hby d5_16) rfl rfl k) ?_
    show OGo p e below s _ _ _ (T27.setTop (mkF m 17 #[.val (.ref ra), .val (.ref rb), .unset] [(.ref rb), (.long vv)]))
    obtain ⟨T28, X28, e28, st28⟩ := getF X27 hx hZ hown (host := "") (Or.inl (hw _ (List.mem_of_getElem? (i := 15) rfl))) Via.refl e27 F_violations_rb (g := (mkF m 17 #[.val (.ref ra), .val (.ref rb), .unset] [(.ref rb), (.long vv)])) rfl rfl (hb hby d5_17)
    refine OGo.on st28 ?_
    show OGo p e below s _ _ _ (T28.setTop (mkF m 20 #[.val (.ref ra), .val (.ref rb), .unset] [(.long wv), (.long vv)]))
    obtain ⟨_, _, ⟨T29, L29, k29, n29⟩, -, X29, ⟨Lc29, hQ29, l29, y29, z29⟩, st29⟩ := Jvm.LawKit.callS X28 hx (y := (⟨"java/lang/Long", "compare", "(JJ)I"⟩ : MethodName)) hown (mvT hZ (hw _ (List.mem_of_getElem? (i := 29) rfl))) (mvT hZ (hw _ (List.mem_of_getElem? (i := 30) rfl))) (mvT hZ (hw _ (List.mem_of_getElem? (i := 31) rfl))) (mvT hZ (hw _ (List.mem_of_getElem? (i := 32) rfl))) (by decide) (backOf (W := 0) (own_mcmp l Z a0 hw [] vv wv h0 n0 Z0) hZ (hw _ (List.mem_of_getElem? (i := 32) rfl)) (hw _ (List.mem_of_getElem? (i := 31) rfl)) (by decide) (by decide)) (g := (mkF m 20 #[.val (.ref ra), .val (.ref rb), .unset] [(.long wv), (.long vv)])) rfl (by rw [hml]; rfl) (argsL := [(.long vv), (.long wv)]) (rest := []) (lenOf own_pd1 rfl) rfl (by show 2 * 0 + _ ≤ _; exact Nat.le_of_eq rfl) (hb hby d5_20) (fun _ _ => ⟨rfl, e28, (by decide : 0 + 0 ≤ _), (by decide : 0 + 0 ≤ _)⟩)
    dsimp only [Pt.U, Pt.locs, Pt.cells, Pt.slots] at X29 l29 y29 z29 st29 hQ29
    subst l29 y29 z29
    obtain ⟨rfl, N29q, e29⟩ := hQ29
    have N29 := Fr.app N0 N29q
    refine OGo.on st29 ?_
    show OGo p e below s _ _ _ (T29.setTop (mkF m 23 #[.val (.ref ra), .val (.ref rb), .unset] [(.int (own_cmp vv wv))]))
    refine OGo.on (fun t k => XS.istoreN X29.here hx rfl (hb hby d5_23) rfl (l' := #[.val (.ref ra), .val (.ref rb), .val (.int (own_cmp vv wv))]) rfl k) ?_
    show OGo p e below s _ _ _ (T29.setTop (mkF m 24 #[.val (.ref ra), .val (.ref rb), .val (.int (own_cmp vv wv))] []))
    refine OGo.on (fun t k => XS.goto X29.here hx rfl (pc0 := 24) (pc' := 39) rfl (hb hby d5_24) (by decide) (by decide) k) ?_
    show OGo p e below s _ _ _ (T29.setTop (mkF m 39 #[.val (.ref ra), .val (.ref rb), .val (.int (own_cmp vv wv))] []))
    refine OGo.on (fun t k => XS.iloadN X29.here hx rfl (hb hby d5_39) rfl k) ?_
    show OGo p e below s _ _ _ (T29.setTop (mkF m 40 #[.val (.ref ra), .val (.ref rb), .val (.int (own_cmp vv wv))] [(.int (own_cmp vv wv))]))
    exact OGo.retI X29 hx hret hlk (hb hby d5_40) (opI (by simp [own_ct, hc23]) N29 e29) (by decide) (by decide)
theorem own_pn3 : plainName "com/example/slotwright/slotwright/core/ScoreHasHardViolationsPinLaw" = true := by first | (simp [plainName, overriddenIn]; done) | decide +kernel
theorem own_pd2 : parseMethodDescriptor "(JJ)V" = some ⟨[.long, .long], none⟩ := by decide +kernel
theorem own_pd3 : parseMethodDescriptor "()Z" = some ⟨[], some .boolean⟩ := by decide +kernel
theorem own_pd4 : parseMethodDescriptor "(Lcom/example/slotwright/slotwright/core/Score;)I" = some ⟨[(.object "com/example/slotwright/slotwright/core/Score")], some .int⟩ := by decide +kernel
theorem ef_own_law (m : MethodId) (x0 : Int32) (x1 : Int64) (x2 : Int64) : entryFrame m #[(.int x0), (.long x1), (.long x2)] maxLocals = mkF m 0 #[.val (.int x0), .val (.long x1), .second, .val (.long x2), .second, .unset, .unset, .unset, .unset, .unset, .unset, .unset, .unset, .unset, .unset] [] := by first | (simp [entryFrame, mkF, argsToLocals, Value.category, maxLocals]; done) | rfl
set_option maxRecDepth 65536 in
set_option maxHeartbeats 40000000 in
theorem own_law (l : Launch) (Z : State) (a0 : Array Value) (hw : ∀ d ∈ tables_1, d.before a0 Z = true) (ws : List Jvm.Cond) (vsel : Int32) (va vb : Int64) (h0 : Heap) (n0 : Nat) (Z0 : n0 ≤ h0.size)  :
    MetFree l x (head1 (Jvm.Cond.code x code maxLocals ret :: ws) room_1) (fun a U => a = #[(.int vsel), (.long va), (.long vb)] ∧ Z.Warmed39 U.vm ∧ U.heap = h0) (fun _ _ _ _ _ => True) (fun _ U o U' => ∃ v L, o = .returned v ∧ (fun v h L => v = some (.int 1) ∧ Fr n0 L) v U'.heap L ∧ FrameEnd U o U' L 16 128) := by
  refine MetFree.of_bodySF (plainFor_of_name own_pn3) hisR ?_
  intro p e s m args below meth c s₁ Bd hml0 hP hK
  obtain ⟨rfl, hZ, hh⟩ := hP
  have hx := Bd.exec
  have hby := Bd.bytes
  have hret := Bd.returns
  have hlk : meth.locks = false := Bd.notSynchronized
  have hml : c.maxLocals = 15 := hml0
  have hown : s.vm.findClass "com/example/slotwright/slotwright/core/ScoreHasHardViolationsPinLaw" = some m.cls := findClass_of_methodNamed Bd.named
  have hnm := (name_of_methodNamed Bd.named Bd.method).1
  have X0 : Stand p l e room_1 s m #[(.int vsel), (.long va), (.long vb)] below meth c s₁ [] 0 0 := Stand.of_body Bd
  have e0 : s₁.heap = h0 := by rw [← hh, Bd.state]; rfl
  have N0 := Fr.nil n0
  have pre0 : ∀ t, Steps p.tables e below (s₁.setTop (mkF m 0 #[.val (.int vsel), .val (.long va), .second, .val (.long vb), .second, .unset, .unset, .unset, .unset, .unset, .unset, .unset, .unset, .unset, .unset] [])) t → Steps p.tables e below (s₁.setTop (entryFrame m #[(.int vsel), (.long va), (.long vb)] maxLocals)) t := fun t k => castTop (ef_own_law m vsel va vb) k
  show OGo p e below s (fun v h L => v = some (.int 1) ∧ Fr n0 L) 16 128 (s₁.setTop (entryFrame m #[(.int vsel), (.long va), (.long vb)] maxLocals))
  refine OGo.on pre0 ?_
  show OGo p e below s _ _ _ (s₁.setTop (mkF m 0 #[.val (.int vsel), .val (.long va), .second, .val (.long vb), .second, .unset, .unset, .unset, .unset, .unset, .unset, .unset, .unset, .unset, .unset] []))
  refine OGo.on (fun t k => XS.iloadN X0.here hx rfl (hb hby at_0) rfl k) ?_
  show OGo p e below s _ _ _ (s₁.setTop (mkF m 1 #[.val (.int vsel), .val (.long va), .second, .val (.long vb), .second, .unset, .unset, .unset, .unset, .unset, .unset, .unset, .unset, .unset, .unset] [(.int vsel)]))
  refine OGo.on (fun t k => XS.iconst X0.here hx rfl (hb hby at_1) k) ?_
  show OGo p e below s _ _ _ (s₁.setTop (mkF m 2 #[.val (.int vsel), .val (.long va), .second, .val (.long vb), .second, .unset, .unset, .unset, .unset, .unset, .unset, .unset, .unset, .unset, .unset] [(.int (3 : Int32)), (.int vsel)]))
  refine OGo.on (fun t k => XS.iand X0.here hx rfl (hb hby at_2) rfl k) ?_
  show OGo p e below s _ _ _ (s₁.setTop (mkF m 3 #[.val (.int vsel), .val (.long va), .second, .val (.long vb), .second, .unset, .unset, .unset, .unset, .unset, .unset, .unset, .unset, .unset, .unset] [(.int (vsel &&& (3 : Int32)))]))
  refine OGo.on (fun t k => XS.istore X0.here hx rfl (hb hby at_3) rfl (l' := #[.val (.int vsel), .val (.long va), .second, .val (.long vb), .second, .val (.int (vsel &&& (3 : Int32))), .unset, .unset, .unset, .unset, .unset, .unset, .unset, .unset, .unset]) rfl k) ?_
  show OGo p e below s _ _ _ (s₁.setTop (mkF m 5 #[.val (.int vsel), .val (.long va), .second, .val (.long vb), .second, .val (.int (vsel &&& (3 : Int32))), .unset, .unset, .unset, .unset, .unset, .unset, .unset, .unset, .unset] []))
  have J : ∀ (vv : Int64), ¬ vv < 0 → OGo p e below s (fun v h L => v = some (.int 1) ∧ Fr n0 L) 16 128 (s₁.setTop (mkF m 35 #[.val (.int vsel), .val (.long va), .second, .val (.long vb), .second, .val (.int (vsel &&& (3 : Int32))), .val (.long vv), .second, .unset, .unset, .unset, .unset, .unset, .unset, .unset] [])) := by
    intro vv hvv
    show OGo p e below s _ _ _ (s₁.setTop (mkF m 35 #[.val (.int vsel), .val (.long va), .second, .val (.long vb), .second, .val (.int (vsel &&& (3 : Int32))), .val (.long vv), .second, .unset, .unset, .unset, .unset, .unset, .unset, .unset] []))
    refine OGo.on (fun t k => XS.lloadN X0.here hx rfl (hb hby at_35) rfl k) ?_
    show OGo p e below s _ _ _ (s₁.setTop (mkF m 36 #[.val (.int vsel), .val (.long va), .second, .val (.long vb), .second, .val (.int (vsel &&& (3 : Int32))), .val (.long vv), .second, .unset, .unset, .unset, .unset, .unset, .unset, .unset] [(.long vb)]))
    refine OGo.on (fun t k => X0.ldc2J hx hown (mvT hZ (hw _ (List.mem_of_getElem? (i := 0) rfl))) (g := (mkF m 36 #[.val (.int vsel), .val (.long va), .second, .val (.long vb), .second, .val (.int (vsel &&& (3 : Int32))), .val (.long vv), .second, .unset, .unset, .unset, .unset, .unset, .unset, .unset] [(.long vb)])) rfl (hb hby at_36) k) ?_
    show OGo p e below s _ _ _ (s₁.setTop (mkF m 39 #[.val (.int vsel), .val (.long va), .second, .val (.long vb), .second, .val (.int (vsel &&& (3 : Int32))), .val (.long vv), .second, .unset, .unset, .unset, .unset, .unset, .unset, .unset] [(.long (9223372036854775807 : Int64)), (.long vb)]))
    refine OGo.on (fun t k => XS.land X0.here hx rfl (hb hby at_39) rfl k) ?_
    show OGo p e below s _ _ _ (s₁.setTop (mkF m 40 #[.val (.int vsel), .val (.long va), .second, .val (.long vb), .second, .val (.int (vsel &&& (3 : Int32))), .val (.long vv), .second, .unset, .unset, .unset, .unset, .unset, .unset, .unset] [(.long (vb &&& (9223372036854775807 : Int64)))]))
    refine OGo.on (fun t k => XS.lstore X0.here hx rfl (hb hby at_40) rfl (l' := #[.val (.int vsel), .val (.long va), .second, .val (.long vb), .second, .val (.int (vsel &&& (3 : Int32))), .val (.long vv), .second, .val (.long (vb &&& (9223372036854775807 : Int64))), .second, .unset, .unset, .unset, .unset, .unset]) rfl k) ?_
    show OGo p e below s _ _ _ (s₁.setTop (mkF m 42 #[.val (.int vsel), .val (.long va), .second, .val (.long vb), .second, .val (.int (vsel &&& (3 : Int32))), .val (.long vv), .second, .val (.long (vb &&& (9223372036854775807 : Int64))), .second, .unset, .unset, .unset, .unset, .unset] []))
    generalize hv_vc : (vb &&& (9223372036854775807 : Int64)) = vc
    show OGo p e below s _ _ _ (s₁.setTop (mkF m 42 #[.val (.int vsel), .val (.long va), .second, .val (.long vb), .second, .val (.int (vsel &&& (3 : Int32))), .val (.long vv), .second, .val (.long vc), .second, .unset, .unset, .unset, .unset, .unset] []))
    have hvc : ¬ vc < 0 := by rw [← hv_vc]; exact own_mask63 _
    obtain ⟨T30, h30, X30, e30, E30, A30, D30, -, st30⟩ := newO X0 hx hZ hown (hw _ (List.mem_of_getElem? (i := 1) rfl)) (hw _ (List.mem_of_getElem? (i := 2) rfl)) (hw _ (List.mem_of_getElem? (i := 3) rfl)) e0 (g := (mkF m 42 #[.val (.int vsel), .val (.long va), .second, .val (.long vb), .second, .val (.int (vsel &&& (3 : Int32))), .val (.long vv), .second, .val (.long vc), .second, .unset, .unset, .unset, .unset, .unset] [])) rfl (hb hby at_42) (by decide) (by decide)
    obtain ⟨b30, g30⟩ : ∃ z, z = h0.size := ⟨_, rfl⟩
    rw [← g30] at A30 D30 st30
    have ge31 : n0 ≤ b30 := Nat.le_trans Z0 (Nat.le_of_eq g30.symm)
    have Z32 : n0 ≤ h30.size := Nat.le_trans Z0 E30.1
    have f33 : Fld Z h30 b30 "com/example/slotwright/slotwright/core/Score" "violations" "J" (.long (0 : Int64)) := D30 (Or.inr (hw _ (List.mem_of_getElem? (i := 16) rfl))) (ty := .long) (by decide)
    have f34 : Fld Z h30 b30 "com/example/slotwright/slotwright/core/Score" "cost" "J" (.long (0 : Int64)) := D30 (Or.inr (hw _ (List.mem_of_getElem? (i := 18) rfl))) (ty := .long) (by decide)
    refine OGo.on st30 ?_
    show OGo p e below s _ _ _ (T30.setTop (mkF m 45 #[.val (.int vsel), .val (.long va), .second, .val (.long vb), .second, .val (.int (vsel &&& (3 : Int32))), .val (.long vv), .second, .val (.long vc), .second, .unset, .unset, .unset, .unset, .unset] [(.ref b30)]))
    refine OGo.on (fun t k => XS.dup X30.here hx rfl (hb hby at_45) rfl rfl k) ?_
    show OGo p e below s _ _ _ (T30.setTop (mkF m 46 #[.val (.int vsel), .val (.long va), .second, .val (.long vb), .second, .val (.int (vsel &&& (3 : Int32))), .val (.long vv), .second, .val (.long vc), .second, .unset, .unset, .unset, .unset, .unset] [(.ref b30), (.ref b30)]))
    refine OGo.on (fun t k => XS.lload X30.here hx rfl (hb hby at_46) rfl k) ?_
    show OGo p e below s _ _ _ (T30.setTop (mkF m 48 #[.val (.int vsel), .val (.long va), .second, .val (.long vb), .second, .val (.int (vsel &&& (3 : Int32))), .val (.long vv), .second, .val (.long vc), .second, .unset, .unset, .unset, .unset, .unset] [(.long vv), (.ref b30), (.ref b30)]))
    refine OGo.on (fun t k => XS.lload X30.here hx rfl (hb hby at_48) rfl k) ?_
    show OGo p e below s _ _ _ (T30.setTop (mkF m 50 #[.val (.int vsel), .val (.long va), .second, .val (.long vb), .second, .val (.int (vsel &&& (3 : Int32))), .val (.long vv), .second, .val (.long vc), .second, .unset, .unset, .unset, .unset, .unset] [(.long vc), (.long vv), (.ref b30), (.ref b30)]))
    obtain ⟨_, _, ⟨T35, L35, k35, n35⟩, -, X35, ⟨Lc35, hQ35, l35, y35, z35⟩, st35⟩ := X30.specialBack hx (y := (⟨"com/example/slotwright/slotwright/core/Score", "<init>", "(JJ)V"⟩ : MethodName)) rfl hown (mvT hZ (hw _ (List.mem_of_getElem? (i := 4) rfl))) (mvT hZ (hw _ (List.mem_of_getElem? (i := 5) rfl))) (mvT hZ (hw _ (List.mem_of_getElem? (i := 6) rfl))) (by decide) (backOf (W := 1) (own_minit l Z a0 hw [] b30 vv vc h30 n0 Z32 ge31 A30 f33 f34 hvv hvc) hZ (hw _ (List.mem_of_getElem? (i := 6) rfl)) (hw _ (List.mem_of_getElem? (i := 3) rfl)) (by decide) (by decide)) (g := (mkF m 50 #[.val (.int vsel), .val (.long va), .second, .val (.long vb), .second, .val (.int (vsel &&& (3 : Int32))), .val (.long vv), .second, .val (.long vc), .second, .unset, .unset, .unset, .unset, .unset] [(.long vc), (.long vv), (.ref b30), (.ref b30)])) rfl (by rw [hml]; rfl) (Steps.refl _) (a := b30) (argsL := [(.long vv), (.long vc)]) (rest := [(.ref b30)]) (lenOf own_pd2 rfl) rfl (by show 2 * 0 + _ ≤ _; exact Nat.le_of_eq rfl) (hb hby at_50) (fun _ _ => ⟨rfl, e30, (by decide : 1 + 0 ≤ _), (by decide : 2 + 0 ≤ _)⟩)
    dsimp only [Pt.U, Pt.locs, Pt.cells, Pt.slots] at X35 l35 y35 z35 st35 hQ35
    subst l35 y35 z35
    obtain ⟨rfl, N35q, K35, Fw35_0', Fw35_1'⟩ := hQ35
    have N35 := Fr.app N0 N35q
    have Fw35_0 : Fld Z T35.heap b30 "com/example/slotwright/slotwright/core/Score" "violations" "J" (.long vv) := Fw35_0'
    have Fw35_1 : Fld Z T35.heap b30 "com/example/slotwright/slotwright/core/Score" "cost" "J" (.long vc) := Fw35_1'
    have f36 : Exa Z T35.heap b30 "com/example/slotwright/slotwright/core/Score" := A30.keep K35
    have Z37 : n0 ≤ T35.heap.size := Nat.le_trans Z32 K35.1
    refine OGo.on (fun t k => st35.trans k) ?_
    show OGo p e below s _ _ _ (T35.setTop (mkF m 53 #[.val (.int vsel), .val (.long va), .second, .val (.long vb), .second, .val (.int (vsel &&& (3 : Int32))), .val (.long vv), .second, .val (.long vc), .second, .unset, .unset, .unset, .unset, .unset] [(.ref b30)]))
    refine OGo.on (fun t k => XS.astore X35.here hx rfl (hb hby at_53) rfl rfl (l' := #[.val (.int vsel), .val (.long va), .second, .val (.long vb), .second, .val (.int (vsel &&& (3 : Int32))), .val (.long vv), .second, .val (.long vc), .second, .val (.ref b30), .unset, .unset, .unset, .unset]) rfl k) ?_
    show OGo p e below s _ _ _ (T35.setTop (mkF m 55 #[.val (.int vsel), .val (.long va), .second, .val (.long vb), .second, .val (.int (vsel &&& (3 : Int32))), .val (.long vv), .second, .val (.long vc), .second, .val (.ref b30), .unset, .unset, .unset, .unset] []))
    obtain ⟨T38, h38, X38, e38, E38, A38, D38, -, st38⟩ := newO X35 hx hZ hown (hw _ (List.mem_of_getElem? (i := 1) rfl)) (hw _ (List.mem_of_getElem? (i := 2) rfl)) (hw _ (List.mem_of_getElem? (i := 3) rfl)) rfl (g := (mkF m 55 #[.val (.int vsel), .val (.long va), .second, .val (.long vb), .second, .val (.int (vsel &&& (3 : Int32))), .val (.long vv), .second, .val (.long vc), .second, .val (.ref b30), .unset, .unset, .unset, .unset] [])) rfl (hb hby at_55) (by decide) (by decide)
    obtain ⟨b38, g38⟩ : ∃ z, z = T35.heap.size := ⟨_, rfl⟩
    rw [← g38] at A38 D38 st38
    have ne39 : b30 ≠ b38 := Nat.ne_of_lt (Nat.lt_of_lt_of_le f36.lt (Nat.le_of_eq g38.symm))
    have ge40 : n0 ≤ b38 := Nat.le_trans Z37 (Nat.le_of_eq g38.symm)
    have f41 : Exa Z h38 b30 "com/example/slotwright/slotwright/core/Score" := f36.ext E38
    have f42 : Fld Z h38 b30 "com/example/slotwright/slotwright/core/Score" "violations" "J" (.long vv) := Fw35_0.ext E38
    have f43 : Fld Z h38 b30 "com/example/slotwright/slotwright/core/Score" "cost" "J" (.long vc) := Fw35_1.ext E38
    have Z44 : n0 ≤ h38.size := Nat.le_trans Z37 E38.1
    have f45 : Fld Z h38 b38 "com/example/slotwright/slotwright/core/Score" "violations" "J" (.long (0 : Int64)) := D38 (Or.inr (hw _ (List.mem_of_getElem? (i := 16) rfl))) (ty := .long) (by decide)
    have f46 : Fld Z h38 b38 "com/example/slotwright/slotwright/core/Score" "cost" "J" (.long (0 : Int64)) := D38 (Or.inr (hw _ (List.mem_of_getElem? (i := 18) rfl))) (ty := .long) (by decide)
    refine OGo.on st38 ?_
    show OGo p e below s _ _ _ (T38.setTop (mkF m 58 #[.val (.int vsel), .val (.long va), .second, .val (.long vb), .second, .val (.int (vsel &&& (3 : Int32))), .val (.long vv), .second, .val (.long vc), .second, .val (.ref b30), .unset, .unset, .unset, .unset] [(.ref b38)]))
    refine OGo.on (fun t k => XS.dup X38.here hx rfl (hb hby at_58) rfl rfl k) ?_
    show OGo p e below s _ _ _ (T38.setTop (mkF m 59 #[.val (.int vsel), .val (.long va), .second, .val (.long vb), .second, .val (.int (vsel &&& (3 : Int32))), .val (.long vv), .second, .val (.long vc), .second, .val (.ref b30), .unset, .unset, .unset, .unset] [(.ref b38), (.ref b38)]))
    refine OGo.on (fun t k => XS.lconst X38.here hx rfl (hb hby at_59) k) ?_
    show OGo p e below s _ _ _ (T38.setTop (mkF m 60 #[.val (.int vsel), .val (.long va), .second, .val (.long vb), .second, .val (.int (vsel &&& (3 : Int32))), .val (.long vv), .second, .val (.long vc), .second, .val (.ref b30), .unset, .unset, .unset, .unset] [(.long (0 : Int64)), (.ref b38), (.ref b38)]))
    refine OGo.on (fun t k => X38.ldc2J hx hown (mvT hZ (hw _ (List.mem_of_getElem? (i := 0) rfl))) (g := (mkF m 60 #[.val (.int vsel), .val (.long va), .second, .val (.long vb), .second, .val (.int (vsel &&& (3 : Int32))), .val (.long vv), .second, .val (.long vc), .second, .val (.ref b30), .unset, .unset, .unset, .unset] [(.long (0 : Int64)), (.ref b38), (.ref b38)])) rfl (hb hby at_60) k) ?_
    show OGo p e below s _ _ _ (T38.setTop (mkF m 63 #[.val (.int vsel), .val (.long va), .second, .val (.long vb), .second, .val (.int (vsel &&& (3 : Int32))), .val (.long vv), .second, .val (.long vc), .second, .val (.ref b30), .unset, .unset, .unset, .unset] [(.long (9223372036854775807 : Int64)), (.long (0 : Int64)), (.ref b38), (.ref b38)]))
    obtain ⟨_, _, ⟨T47, L47, k47, n47⟩, -, X47, ⟨Lc47, hQ47, l47, y47, z47⟩, st47⟩ := X38.specialBack hx (y := (⟨"com/example/slotwright/slotwright/core/Score", "<init>", "(JJ)V"⟩ : MethodName)) rfl hown (mvT hZ (hw _ (List.mem_of_getElem? (i := 4) rfl))) (mvT hZ (hw _ (List.mem_of_getElem? (i := 5) rfl))) (mvT hZ (hw _ (List.mem_of_getElem? (i := 6) rfl))) (by decide) (backOf (W := 1) (own_minit l Z a0 hw [] b38 (0 : Int64) (9223372036854775807 : Int64) h38 n0 Z44 ge40 A38 f45 f46 (by decide) (by decide)) hZ (hw _ (List.mem_of_getElem? (i := 6) rfl)) (hw _ (List.mem_of_getElem? (i := 3) rfl)) (by decide) (by decide)) (g := (mkF m 63 #[.val (.int vsel), .val (.long va), .second, .val (.long vb), .second, .val (.int (vsel &&& (3 : Int32))), .val (.long vv), .second, .val (.long vc), .second, .val (.ref b30), .unset, .unset, .unset, .unset] [(.long (9223372036854775807 : Int64)), (.long (0 : Int64)), (.ref b38), (.ref b38)])) rfl (by rw [hml]; rfl) (Steps.refl _) (a := b38) (argsL := [(.long (0 : Int64)), (.long (9223372036854775807 : Int64))]) (rest := [(.ref b38)]) (lenOf own_pd2 rfl) rfl (by show 2 * 0 + _ ≤ _; exact Nat.le_of_eq rfl) (hb hby at_63) (fun _ _ => ⟨rfl, e38, (by decide : 2 + 0 ≤ _), (by decide : 4 + 0 ≤ _)⟩)
    dsimp only [Pt.U, Pt.locs, Pt.cells, Pt.slots] at X47 l47 y47 z47 st47 hQ47
    subst l47 y47 z47
    obtain ⟨rfl, N47q, K47, Fw47_0', Fw47_1'⟩ := hQ47
    have N47 := Fr.app N35 N47q
    have Fw47_0 : Fld Z T47.heap b38 "com/example/slotwright/slotwright/core/Score" "violations" "J" (.long (0 : Int64)) := Fw47_0'
    have Fw47_1 : Fld Z T47.heap b38 "com/example/slotwright/slotwright/core/Score" "cost" "J" (.long (9223372036854775807 : Int64)) := Fw47_1'
    have f48 : Exa Z T47.heap b30 "com/example/slotwright/slotwright/core/Score" := f41.keep K47
    have f49 : Fld Z T47.heap b30 "com/example/slotwright/slotwright/core/Score" "violations" "J" (.long vv) := f42.keep K47 (own_nm1 ne39)
    have f50 : Fld Z T47.heap b30 "com/example/slotwright/slotwright/core/Score" "cost" "J" (.long vc) := f43.keep K47 (own_nm1 ne39)
    have f51 : Exa Z T47.heap b38 "com/example/slotwright/slotwright/core/Score" := A38.keep K47
    have Z52 : n0 ≤ T47.heap.size := Nat.le_trans Z44 K47.1
    refine OGo.on (fun t k => st47.trans k) ?_
    show OGo p e below s _ _ _ (T47.setTop (mkF m 66 #[.val (.int vsel), .val (.long va), .second, .val (.long vb), .second, .val (.int (vsel &&& (3 : Int32))), .val (.long vv), .second, .val (.long vc), .second, .val (.ref b30), .unset, .unset, .unset, .unset] [(.ref b38)]))
    refine OGo.on (fun t k => XS.astore X47.here hx rfl (hb hby at_66) rfl rfl (l' := #[.val (.int vsel), .val (.long va), .second, .val (.long vb), .second, .val (.int (vsel &&& (3 : Int32))), .val (.long vv), .second, .val (.long vc), .second, .val (.ref b30), .val (.ref b38), .unset, .unset, .unset]) rfl k) ?_
    show OGo p e below s _ _ _ (T47.setTop (mkF m 68 #[.val (.int vsel), .val (.long va), .second, .val (.long vb), .second, .val (.int (vsel &&& (3 : Int32))), .val (.long vv), .second, .val (.long vc), .second, .val (.ref b30), .val (.ref b38), .unset, .unset, .unset] []))
    refine OGo.on (fun t k => XS.aload X47.here hx rfl (hb hby at_68) rfl rfl k) ?_
    show OGo p e below s _ _ _ (T47.setTop (mkF m 70 #[.val (.int vsel), .val (.long va), .second, .val (.long vb), .second, .val (.int (vsel &&& (3 : Int32))), .val (.long vv), .second, .val (.long vc), .second, .val (.ref b30), .val (.ref b38), .unset, .unset, .unset] [(.ref b30)]))
    obtain ⟨cq53, kq53, q53a, q53b, q53c⟩ := isOf hZ rfl f48
    obtain ⟨_, _, ⟨T53, L53, k53, n53⟩, -, X53, ⟨Lc53, hQ53, l53, y53, z53⟩, st53⟩ := X47.virtualBack hx (y := (⟨"com/example/slotwright/slotwright/core/Score", "hasHardViolations", "()Z"⟩ : MethodName)) (z := (⟨"com/example/slotwright/slotwright/core/Score", "hasHardViolations", "()Z"⟩ : MethodName)) hown (mvT hZ (hw _ (List.mem_of_getElem? (i := 19) rfl))) (mvT hZ (hw _ (List.mem_of_getElem? (i := 20) rfl))) (notFace_of_selects (args := #[]) (mvT hZ (hw _ (List.mem_of_getElem? (i := 22) rfl)))) (mvT hZ (hw _ (List.mem_of_getElem? (i := 22) rfl))) (mvT hZ (hw _ (List.mem_of_getElem? (i := 21) rfl))) (by decide) (backOf (W := 0) (own_mhv l Z a0 hw [] b30 vv T47.heap n0 Z52 f49) hZ (hw _ (List.mem_of_getElem? (i := 23) rfl)) (hw _ (List.mem_of_getElem? (i := 3) rfl)) (by decide) (by decide)) q53a q53c (g := (mkF m 70 #[.val (.int vsel), .val (.long va), .second, .val (.long vb), .second, .val (.int (vsel &&& (3 : Int32))), .val (.long vv), .second, .val (.long vc), .second, .val (.ref b30), .val (.ref b38), .unset, .unset, .unset] [(.ref b30)])) rfl (by rw [hml]; rfl) (Steps.refl _) (argsL := []) (rest := []) (lenOf own_pd3 rfl) rfl (by show 2 * 0 + _ ≤ _; exact Nat.le_of_eq rfl) (hb hby at_70) (fun _ _ => ⟨rfl, rfl, (by decide : 2 + 0 ≤ _), (by decide : 4 + 0 ≤ _)⟩)
    dsimp only [Pt.U, Pt.locs, Pt.cells, Pt.slots] at X53 l53 y53 z53 st53 hQ53
    subst l53 y53 z53
    obtain ⟨rfl, N53q, e53⟩ := hQ53
    have N53 := Fr.app N47 N53q
    refine OGo.on (fun t k => st53.trans k) ?_
    show OGo p e below s _ _ _ (T53.setTop (mkF m 73 #[.val (.int vsel), .val (.long va), .second, .val (.long vb), .second, .val (.int (vsel &&& (3 : Int32))), .val (.long vv), .second, .val (.long vc), .second, .val (.ref b30), .val (.ref b38), .unset, .unset, .unset] [(.int (own_hv vv))]))
    refine OGo.on (fun t k => XS.istore X53.here hx rfl (hb hby at_73) rfl (l' := #[.val (.int vsel), .val (.long va), .second, .val (.long vb), .second, .val (.int (vsel &&& (3 : Int32))), .val (.long vv), .second, .val (.long vc), .second, .val (.ref b30), .val (.ref b38), .val (.int (own_hv vv)), .unset, .unset]) rfl k) ?_
    show OGo p e below s _ _ _ (T53.setTop (mkF m 75 #[.val (.int vsel), .val (.long va), .second, .val (.long vb), .second, .val (.int (vsel &&& (3 : Int32))), .val (.long vv), .second, .val (.long vc), .second, .val (.ref b30), .val (.ref b38), .val (.int (own_hv vv)), .unset, .unset] []))
    refine OGo.on (fun t k => XS.lload X53.here hx rfl (hb hby at_75) rfl k) ?_
    show OGo p e below s _ _ _ (T53.setTop (mkF m 77 #[.val (.int vsel), .val (.long va), .second, .val (.long vb), .second, .val (.int (vsel &&& (3 : Int32))), .val (.long vv), .second, .val (.long vc), .second, .val (.ref b30), .val (.ref b38), .val (.int (own_hv vv)), .unset, .unset] [(.long vv)]))
    refine OGo.on (fun t k => XS.lconst X53.here hx rfl (hb hby at_77) k) ?_
    show OGo p e below s _ _ _ (T53.setTop (mkF m 78 #[.val (.int vsel), .val (.long va), .second, .val (.long vb), .second, .val (.int (vsel &&& (3 : Int32))), .val (.long vv), .second, .val (.long vc), .second, .val (.ref b30), .val (.ref b38), .val (.int (own_hv vv)), .unset, .unset] [(.long (0 : Int64)), (.long vv)]))
    refine OGo.on (fun t k => XS.lcmp X53.here hx rfl (hb hby at_78) rfl k) ?_
    show OGo p e below s _ _ _ (T53.setTop (mkF m 79 #[.val (.int vsel), .val (.long va), .second, .val (.long vb), .second, .val (.int (vsel &&& (3 : Int32))), .val (.long vv), .second, .val (.long vc), .second, .val (.ref b30), .val (.ref b38), .val (.int (own_hv vv)), .unset, .unset] [(.int (lcmpW vv (0 : Int64)))]))
    by_cases hc54 : vv = (0 : Int64)
    · refine OGo.on (fun t k => XS.ifYes X53.here hx rfl (pc0 := 79) (pc' := 86) rfl (hb hby at_79) rfl (lc_teq hc54).1 (by decide) (by decide) k) ?_
      show OGo p e below s _ _ _ (T53.setTop (mkF m 86 #[.val (.int vsel), .val (.long va), .second, .val (.long vb), .second, .val (.int (vsel &&& (3 : Int32))), .val (.long vv), .second, .val (.long vc), .second, .val (.ref b30), .val (.ref b38), .val (.int (own_hv vv)), .unset, .unset] []))
      refine OGo.on (fun t k => XS.iconst X53.here hx rfl (hb hby at_86) k) ?_
      show OGo p e below s _ _ _ (T53.setTop (mkF m 87 #[.val (.int vsel), .val (.long va), .second, .val (.long vb), .second, .val (.int (vsel &&& (3 : Int32))), .val (.long vv), .second, .val (.long vc), .second, .val (.ref b30), .val (.ref b38), .val (.int (own_hv vv)), .unset, .unset] [(.int (0 : Int32))]))
      refine OGo.on (fun t k => XS.istore X53.here hx rfl (hb hby at_87) rfl (l' := #[.val (.int vsel), .val (.long va), .second, .val (.long vb), .second, .val (.int (vsel &&& (3 : Int32))), .val (.long vv), .second, .val (.long vc), .second, .val (.ref b30), .val (.ref b38), .val (.int (own_hv vv)), .val (.int (0 : Int32)), .unset]) rfl k) ?_
      show OGo p e below s _ _ _ (T53.setTop (mkF m 89 #[.val (.int vsel), .val (.long va), .second, .val (.long vb), .second, .val (.int (vsel &&& (3 : Int32))), .val (.long vv), .second, .val (.long vc), .second, .val (.ref b30), .val (.ref b38), .val (.int (own_hv vv)), .val (.int (0 : Int32)), .unset] []))
      refine OGo.on (fun t k => XS.aload X53.here hx rfl (hb hby at_89) rfl rfl k) ?_
      show OGo p e below s _ _ _ (T53.setTop (mkF m 91 #[.val (.int vsel), .val (.long va), .second, .val (.long vb), .second, .val (.int (vsel &&& (3 : Int32))), .val (.long vv), .second, .val (.long vc), .second, .val (.ref b30), .val (.ref b38), .val (.int (own_hv vv)), .val (.int (0 : Int32)), .unset] [(.ref b30)]))
      refine OGo.on (fun t k => XS.aload X53.here hx rfl (hb hby at_91) rfl rfl k) ?_
      show OGo p e below s _ _ _ (T53.setTop (mkF m 93 #[.val (.int vsel), .val (.long va), .second, .val (.long vb), .second, .val (.int (vsel &&& (3 : Int32))), .val (.long vv), .second, .val (.long vc), .second, .val (.ref b30), .val (.ref b38), .val (.int (own_hv vv)), .val (.int (0 : Int32)), .unset] [(.ref b38), (.ref b30)]))
      obtain ⟨cq55, kq55, q55a, q55b, q55c⟩ := isOf hZ e53 f48
      obtain ⟨_, _, ⟨T55, L55, k55, n55⟩, -, X55, ⟨Lc55, hQ55, l55, y55, z55⟩, st55⟩ := X53.virtualBack hx (y := (⟨"com/example/slotwright/slotwright/core/Score", "compareTo", "(Lcom/example/slotwright/slotwright/core/Score;)I"⟩ : MethodName)) (z := (⟨"com/example/slotwright/slotwright/core/Score", "compareTo", "(Lcom/example/slotwright/slotwright/core/Score;)I"⟩ : MethodName)) hown (mvT hZ (hw _ (List.mem_of_getElem? (i := 24) rfl))) (mvT hZ (hw _ (List.mem_of_getElem? (i := 25) rfl))) (notFace_of_selects (args := #[]) (mvT hZ (hw _ (List.mem_of_getElem? (i := 27) rfl)))) (mvT hZ (hw _ (List.mem_of_getElem? (i := 27) rfl))) (mvT hZ (hw _ (List.mem_of_getElem? (i := 26) rfl))) (by decide) (backOf (W := 0) (own_mct l Z a0 hw [] b30 b38 vv vc (0 : Int64) (9223372036854775807 : Int64) T47.heap n0 Z52 f49 f50 Fw47_0 Fw47_1) hZ (hw _ (List.mem_of_getElem? (i := 28) rfl)) (hw _ (List.mem_of_getElem? (i := 3) rfl)) (by decide) (by decide)) q55a q55c (g := (mkF m 93 #[.val (.int vsel), .val (.long va), .second, .val (.long vb), .second, .val (.int (vsel &&& (3 : Int32))), .val (.long vv), .second, .val (.long vc), .second, .val (.ref b30), .val (.ref b38), .val (.int (own_hv vv)), .val (.int (0 : Int32)), .unset] [(.ref b38), (.ref b30)])) rfl (by rw [hml]; rfl) (Steps.refl _) (argsL := [(.ref b38)]) (rest := []) (lenOf own_pd4 rfl) rfl (by show 2 * 0 + _ ≤ _; exact Nat.le_of_eq rfl) (hb hby at_93) (fun _ _ => ⟨rfl, e53, (by decide : 2 + 0 ≤ _), (by decide : 4 + 0 ≤ _)⟩)
      dsimp only [Pt.U, Pt.locs, Pt.cells, Pt.slots] at X55 l55 y55 z55 st55 hQ55
      subst l55 y55 z55
      obtain ⟨rfl, N55q, e55⟩ := hQ55
      have N55 := Fr.app N53 N55q
      refine OGo.on (fun t k => st55.trans k) ?_
      show OGo p e below s _ _ _ (T55.setTop (mkF m 96 #[.val (.int vsel), .val (.long va), .second, .val (.long vb), .second, .val (.int (vsel &&& (3 : Int32))), .val (.long vv), .second, .val (.long vc), .second, .val (.ref b30), .val (.ref b38), .val (.int (own_hv vv)), .val (.int (0 : Int32)), .unset] [(.int (own_ct vv vc (0 : Int64) (9223372036854775807 : Int64)))]))
      refine OGo.on (fun t k => XS.ifYes X55.here hx rfl (pc0 := 96) (pc' := 103) rfl (hb hby at_96) rfl ((if0 _ _).trans (flt (own_ct0 hc54)).2.2.2) (by decide) (by decide) k) ?_
      show OGo p e below s _ _ _ (T55.setTop (mkF m 103 #[.val (.int vsel), .val (.long va), .second, .val (.long vb), .second, .val (.int (vsel &&& (3 : Int32))), .val (.long vv), .second, .val (.long vc), .second, .val (.ref b30), .val (.ref b38), .val (.int (own_hv vv)), .val (.int (0 : Int32)), .unset] []))
      refine OGo.on (fun t k => XS.iconst X55.here hx rfl (hb hby at_103) k) ?_
      show OGo p e below s _ _ _ (T55.setTop (mkF m 104 #[.val (.int vsel), .val (.long va), .second, .val (.long vb), .second, .val (.int (vsel &&& (3 : Int32))), .val (.long vv), .second, .val (.long vc), .second, .val (.ref b30), .val (.ref b38), .val (.int (own_hv vv)), .val (.int (0 : Int32)), .unset] [(.int (0 : Int32))]))
      refine OGo.on (fun t k => XS.istore X55.here hx rfl (hb hby at_104) rfl (l' := #[.val (.int vsel), .val (.long va), .second, .val (.long vb), .second, .val (.int (vsel &&& (3 : Int32))), .val (.long vv), .second, .val (.long vc), .second, .val (.ref b30), .val (.ref b38), .val (.int (own_hv vv)), .val (.int (0 : Int32)), .val (.int (0 : Int32))]) rfl k) ?_
      show OGo p e below s _ _ _ (T55.setTop (mkF m 106 #[.val (.int vsel), .val (.long va), .second, .val (.long vb), .second, .val (.int (vsel &&& (3 : Int32))), .val (.long vv), .second, .val (.long vc), .second, .val (.ref b30), .val (.ref b38), .val (.int (own_hv vv)), .val (.int (0 : Int32)), .val (.int (0 : Int32))] []))
      refine OGo.on (fun t k => XS.iload X55.here hx rfl (hb hby at_106) rfl k) ?_
      show OGo p e below s _ _ _ (T55.setTop (mkF m 108 #[.val (.int vsel), .val (.long va), .second, .val (.long vb), .second, .val (.int (vsel &&& (3 : Int32))), .val (.long vv), .second, .val (.long vc), .second, .val (.ref b30), .val (.ref b38), .val (.int (own_hv vv)), .val (.int (0 : Int32)), .val (.int (0 : Int32))] [(.int (own_hv vv))]))
      refine OGo.on (fun t k => XS.iload X55.here hx rfl (hb hby at_108) rfl k) ?_
      show OGo p e below s _ _ _ (T55.setTop (mkF m 110 #[.val (.int vsel), .val (.long va), .second, .val (.long vb), .second, .val (.int (vsel &&& (3 : Int32))), .val (.long vv), .second, .val (.long vc), .second, .val (.ref b30), .val (.ref b38), .val (.int (own_hv vv)), .val (.int (0 : Int32)), .val (.int (0 : Int32))] [(.int (0 : Int32)), (.int (own_hv vv))]))
      refine OGo.on (fun t k => XS.icmpNo X55.here hx rfl (hb hby at_110) rfl (teq (own_hv0 hc54)).2 k) ?_
      show OGo p e below s _ _ _ (T55.setTop (mkF m 113 #[.val (.int vsel), .val (.long va), .second, .val (.long vb), .second, .val (.int (vsel &&& (3 : Int32))), .val (.long vv), .second, .val (.long vc), .second, .val (.ref b30), .val (.ref b38), .val (.int (own_hv vv)), .val (.int (0 : Int32)), .val (.int (0 : Int32))] []))
      refine OGo.on (fun t k => XS.iload X55.here hx rfl (hb hby at_113) rfl k) ?_
      show OGo p e below s _ _ _ (T55.setTop (mkF m 115 #[.val (.int vsel), .val (.long va), .second, .val (.long vb), .second, .val (.int (vsel &&& (3 : Int32))), .val (.long vv), .second, .val (.long vc), .second, .val (.ref b30), .val (.ref b38), .val (.int (own_hv vv)), .val (.int (0 : Int32)), .val (.int (0 : Int32))] [(.int (own_hv vv))]))
      refine OGo.on (fun t k => XS.iload X55.here hx rfl (hb hby at_115) rfl k) ?_
      show OGo p e below s _ _ _ (T55.setTop (mkF m 117 #[.val (.int vsel), .val (.long va), .second, .val (.long vb), .second, .val (.int (vsel &&& (3 : Int32))), .val (.long vv), .second, .val (.long vc), .second, .val (.ref b30), .val (.ref b38), .val (.int (own_hv vv)), .val (.int (0 : Int32)), .val (.int (0 : Int32))] [(.int (0 : Int32)), (.int (own_hv vv))]))
      refine OGo.on (fun t k => XS.icmpNo X55.here hx rfl (hb hby at_117) rfl (teq (own_hv0 hc54)).2 k) ?_
      show OGo p e below s _ _ _ (T55.setTop (mkF m 120 #[.val (.int vsel), .val (.long va), .second, .val (.long vb), .second, .val (.int (vsel &&& (3 : Int32))), .val (.long vv), .second, .val (.long vc), .second, .val (.ref b30), .val (.ref b38), .val (.int (own_hv vv)), .val (.int (0 : Int32)), .val (.int (0 : Int32))] []))
      refine OGo.on (fun t k => XS.iconst X55.here hx rfl (hb hby at_120) k) ?_
      show OGo p e below s _ _ _ (T55.setTop (mkF m 121 #[.val (.int vsel), .val (.long va), .second, .val (.long vb), .second, .val (.int (vsel &&& (3 : Int32))), .val (.long vv), .second, .val (.long vc), .second, .val (.ref b30), .val (.ref b38), .val (.int (own_hv vv)), .val (.int (0 : Int32)), .val (.int (0 : Int32))] [(.int (1 : Int32))]))
      refine OGo.on (fun t k => XS.goto X55.here hx rfl (pc0 := 121) (pc' := 125) rfl (hb hby at_121) (by decide) (by decide) k) ?_
      show OGo p e below s _ _ _ (T55.setTop (mkF m 125 #[.val (.int vsel), .val (.long va), .second, .val (.long vb), .second, .val (.int (vsel &&& (3 : Int32))), .val (.long vv), .second, .val (.long vc), .second, .val (.ref b30), .val (.ref b38), .val (.int (own_hv vv)), .val (.int (0 : Int32)), .val (.int (0 : Int32))] [(.int (1 : Int32))]))
      exact OGo.retN X55 hx (t := .boolean) hret hlk (by simp) (hb hby at_125) ⟨rfl, N55⟩ (by decide) (by decide)
    · refine OGo.on (fun t k => XS.ifNo X53.here hx rfl (hb hby at_79) rfl (lc_feq hc54).1 k) ?_
      show OGo p e below s _ _ _ (T53.setTop (mkF m 82 #[.val (.int vsel), .val (.long va), .second, .val (.long vb), .second, .val (.int (vsel &&& (3 : Int32))), .val (.long vv), .second, .val (.long vc), .second, .val (.ref b30), .val (.ref b38), .val (.int (own_hv vv)), .unset, .unset] []))
      refine OGo.on (fun t k => XS.iconst X53.here hx rfl (hb hby at_82) k) ?_
      show OGo p e below s _ _ _ (T53.setTop (mkF m 83 #[.val (.int vsel), .val (.long va), .second, .val (.long vb), .second, .val (.int (vsel &&& (3 : Int32))), .val (.long vv), .second, .val (.long vc), .second, .val (.ref b30), .val (.ref b38), .val (.int (own_hv vv)), .unset, .unset] [(.int (1 : Int32))]))
      refine OGo.on (fun t k => XS.goto X53.here hx rfl (pc0 := 83) (pc' := 87) rfl (hb hby at_83) (by decide) (by decide) k) ?_
      show OGo p e below s _ _ _ (T53.setTop (mkF m 87 #[.val (.int vsel), .val (.long va), .second, .val (.long vb), .second, .val (.int (vsel &&& (3 : Int32))), .val (.long vv), .second, .val (.long vc), .second, .val (.ref b30), .val (.ref b38), .val (.int (own_hv vv)), .unset, .unset] [(.int (1 : Int32))]))
      refine OGo.on (fun t k => XS.istore X53.here hx rfl (hb hby at_87) rfl (l' := #[.val (.int vsel), .val (.long va), .second, .val (.long vb), .second, .val (.int (vsel &&& (3 : Int32))), .val (.long vv), .second, .val (.long vc), .second, .val (.ref b30), .val (.ref b38), .val (.int (own_hv vv)), .val (.int (1 : Int32)), .unset]) rfl k) ?_
      show OGo p e below s _ _ _ (T53.setTop (mkF m 89 #[.val (.int vsel), .val (.long va), .second, .val (.long vb), .second, .val (.int (vsel &&& (3 : Int32))), .val (.long vv), .second, .val (.long vc), .second, .val (.ref b30), .val (.ref b38), .val (.int (own_hv vv)), .val (.int (1 : Int32)), .unset] []))
      refine OGo.on (fun t k => XS.aload X53.here hx rfl (hb hby at_89) rfl rfl k) ?_
      show OGo p e below s _ _ _ (T53.setTop (mkF m 91 #[.val (.int vsel), .val (.long va), .second, .val (.long vb), .second, .val (.int (vsel &&& (3 : Int32))), .val (.long vv), .second, .val (.long vc), .second, .val (.ref b30), .val (.ref b38), .val (.int (own_hv vv)), .val (.int (1 : Int32)), .unset] [(.ref b30)]))
      refine OGo.on (fun t k => XS.aload X53.here hx rfl (hb hby at_91) rfl rfl k) ?_
      show OGo p e below s _ _ _ (T53.setTop (mkF m 93 #[.val (.int vsel), .val (.long va), .second, .val (.long vb), .second, .val (.int (vsel &&& (3 : Int32))), .val (.long vv), .second, .val (.long vc), .second, .val (.ref b30), .val (.ref b38), .val (.int (own_hv vv)), .val (.int (1 : Int32)), .unset] [(.ref b38), (.ref b30)]))
      obtain ⟨cq56, kq56, q56a, q56b, q56c⟩ := isOf hZ e53 f48
      obtain ⟨_, _, ⟨T56, L56, k56, n56⟩, -, X56, ⟨Lc56, hQ56, l56, y56, z56⟩, st56⟩ := X53.virtualBack hx (y := (⟨"com/example/slotwright/slotwright/core/Score", "compareTo", "(Lcom/example/slotwright/slotwright/core/Score;)I"⟩ : MethodName)) (z := (⟨"com/example/slotwright/slotwright/core/Score", "compareTo", "(Lcom/example/slotwright/slotwright/core/Score;)I"⟩ : MethodName)) hown (mvT hZ (hw _ (List.mem_of_getElem? (i := 24) rfl))) (mvT hZ (hw _ (List.mem_of_getElem? (i := 25) rfl))) (notFace_of_selects (args := #[]) (mvT hZ (hw _ (List.mem_of_getElem? (i := 27) rfl)))) (mvT hZ (hw _ (List.mem_of_getElem? (i := 27) rfl))) (mvT hZ (hw _ (List.mem_of_getElem? (i := 26) rfl))) (by decide) (backOf (W := 0) (own_mct l Z a0 hw [] b30 b38 vv vc (0 : Int64) (9223372036854775807 : Int64) T47.heap n0 Z52 f49 f50 Fw47_0 Fw47_1) hZ (hw _ (List.mem_of_getElem? (i := 28) rfl)) (hw _ (List.mem_of_getElem? (i := 3) rfl)) (by decide) (by decide)) q56a q56c (g := (mkF m 93 #[.val (.int vsel), .val (.long va), .second, .val (.long vb), .second, .val (.int (vsel &&& (3 : Int32))), .val (.long vv), .second, .val (.long vc), .second, .val (.ref b30), .val (.ref b38), .val (.int (own_hv vv)), .val (.int (1 : Int32)), .unset] [(.ref b38), (.ref b30)])) rfl (by rw [hml]; rfl) (Steps.refl _) (argsL := [(.ref b38)]) (rest := []) (lenOf own_pd4 rfl) rfl (by show 2 * 0 + _ ≤ _; exact Nat.le_of_eq rfl) (hb hby at_93) (fun _ _ => ⟨rfl, e53, (by decide : 2 + 0 ≤ _), (by decide : 4 + 0 ≤ _)⟩)
      dsimp only [Pt.U, Pt.locs, Pt.cells, Pt.slots] at X56 l56 y56 z56 st56 hQ56
      subst l56 y56 z56
      obtain ⟨rfl, N56q, e56⟩ := hQ56
      have N56 := Fr.app N53 N56q
      refine OGo.on (fun t k => st56.trans k) ?_
      show OGo p e below s _ _ _ (T56.setTop (mkF m 96 #[.val (.int vsel), .val (.long va), .second, .val (.long vb), .second, .val (.int (vsel &&& (3 : Int32))), .val (.long vv), .second, .val (.long vc), .second, .val (.ref b30), .val (.ref b38), .val (.int (own_hv vv)), .val (.int (1 : Int32)), .unset] [(.int (own_ct vv vc (0 : Int64) (9223372036854775807 : Int64)))]))
      refine OGo.on (fun t k => XS.ifNo X56.here hx rfl (hb hby at_96) rfl ((if0 _ _).trans (tlt (own_ct1 hvv hc54)).2.2.2) k) ?_
      show OGo p e below s _ _ _ (T56.setTop (mkF m 99 #[.val (.int vsel), .val (.long va), .second, .val (.long vb), .second, .val (.int (vsel &&& (3 : Int32))), .val (.long vv), .second, .val (.long vc), .second, .val (.ref b30), .val (.ref b38), .val (.int (own_hv vv)), .val (.int (1 : Int32)), .unset] []))
      refine OGo.on (fun t k => XS.iconst X56.here hx rfl (hb hby at_99) k) ?_
      show OGo p e below s _ _ _ (T56.setTop (mkF m 100 #[.val (.int vsel), .val (.long va), .second, .val (.long vb), .second, .val (.int (vsel &&& (3 : Int32))), .val (.long vv), .second, .val (.long vc), .second, .val (.ref b30), .val (.ref b38), .val (.int (own_hv vv)), .val (.int (1 : Int32)), .unset] [(.int (1 : Int32))]))
      refine OGo.on (fun t k => XS.goto X56.here hx rfl (pc0 := 100) (pc' := 104) rfl (hb hby at_100) (by decide) (by decide) k) ?_
      show OGo p e below s _ _ _ (T56.setTop (mkF m 104 #[.val (.int vsel), .val (.long va), .second, .val (.long vb), .second, .val (.int (vsel &&& (3 : Int32))), .val (.long vv), .second, .val (.long vc), .second, .val (.ref b30), .val (.ref b38), .val (.int (own_hv vv)), .val (.int (1 : Int32)), .unset] [(.int (1 : Int32))]))
      refine OGo.on (fun t k => XS.istore X56.here hx rfl (hb hby at_104) rfl (l' := #[.val (.int vsel), .val (.long va), .second, .val (.long vb), .second, .val (.int (vsel &&& (3 : Int32))), .val (.long vv), .second, .val (.long vc), .second, .val (.ref b30), .val (.ref b38), .val (.int (own_hv vv)), .val (.int (1 : Int32)), .val (.int (1 : Int32))]) rfl k) ?_
      show OGo p e below s _ _ _ (T56.setTop (mkF m 106 #[.val (.int vsel), .val (.long va), .second, .val (.long vb), .second, .val (.int (vsel &&& (3 : Int32))), .val (.long vv), .second, .val (.long vc), .second, .val (.ref b30), .val (.ref b38), .val (.int (own_hv vv)), .val (.int (1 : Int32)), .val (.int (1 : Int32))] []))
      refine OGo.on (fun t k => XS.iload X56.here hx rfl (hb hby at_106) rfl k) ?_
      show OGo p e below s _ _ _ (T56.setTop (mkF m 108 #[.val (.int vsel), .val (.long va), .second, .val (.long vb), .second, .val (.int (vsel &&& (3 : Int32))), .val (.long vv), .second, .val (.long vc), .second, .val (.ref b30), .val (.ref b38), .val (.int (own_hv vv)), .val (.int (1 : Int32)), .val (.int (1 : Int32))] [(.int (own_hv vv))]))
      refine OGo.on (fun t k => XS.iload X56.here hx rfl (hb hby at_108) rfl k) ?_
      show OGo p e below s _ _ _ (T56.setTop (mkF m 110 #[.val (.int vsel), .val (.long va), .second, .val (.long vb), .second, .val (.int (vsel &&& (3 : Int32))), .val (.long vv), .second, .val (.long vc), .second, .val (.ref b30), .val (.ref b38), .val (.int (own_hv vv)), .val (.int (1 : Int32)), .val (.int (1 : Int32))] [(.int (1 : Int32)), (.int (own_hv vv))]))
      refine OGo.on (fun t k => XS.icmpNo X56.here hx rfl (hb hby at_110) rfl (teq (own_hv1 hvv hc54)).2 k) ?_
      show OGo p e below s _ _ _ (T56.setTop (mkF m 113 #[.val (.int vsel), .val (.long va), .second, .val (.long vb), .second, .val (.int (vsel &&& (3 : Int32))), .val (.long vv), .second, .val (.long vc), .second, .val (.ref b30), .val (.ref b38), .val (.int (own_hv vv)), .val (.int (1 : Int32)), .val (.int (1 : Int32))] []))
      refine OGo.on (fun t k => XS.iload X56.here hx rfl (hb hby at_113) rfl k) ?_
      show OGo p e below s _ _ _ (T56.setTop (mkF m 115 #[.val (.int vsel), .val (.long va), .second, .val (.long vb), .second, .val (.int (vsel &&& (3 : Int32))), .val (.long vv), .second, .val (.long vc), .second, .val (.ref b30), .val (.ref b38), .val (.int (own_hv vv)), .val (.int (1 : Int32)), .val (.int (1 : Int32))] [(.int (own_hv vv))]))
      refine OGo.on (fun t k => XS.iload X56.here hx rfl (hb hby at_115) rfl k) ?_
      show OGo p e below s _ _ _ (T56.setTop (mkF m 117 #[.val (.int vsel), .val (.long va), .second, .val (.long vb), .second, .val (.int (vsel &&& (3 : Int32))), .val (.long vv), .second, .val (.long vc), .second, .val (.ref b30), .val (.ref b38), .val (.int (own_hv vv)), .val (.int (1 : Int32)), .val (.int (1 : Int32))] [(.int (1 : Int32)), (.int (own_hv vv))]))
      refine OGo.on (fun t k => XS.icmpNo X56.here hx rfl (hb hby at_117) rfl (teq (own_hv1 hvv hc54)).2 k) ?_
      show OGo p e below s _ _ _ (T56.setTop (mkF m 120 #[.val (.int vsel), .val (.long va), .second, .val (.long vb), .second, .val (.int (vsel &&& (3 : Int32))), .val (.long vv), .second, .val (.long vc), .second, .val (.ref b30), .val (.ref b38), .val (.int (own_hv vv)), .val (.int (1 : Int32)), .val (.int (1 : Int32))] []))
      refine OGo.on (fun t k => XS.iconst X56.here hx rfl (hb hby at_120) k) ?_
      show OGo p e below s _ _ _ (T56.setTop (mkF m 121 #[.val (.int vsel), .val (.long va), .second, .val (.long vb), .second, .val (.int (vsel &&& (3 : Int32))), .val (.long vv), .second, .val (.long vc), .second, .val (.ref b30), .val (.ref b38), .val (.int (own_hv vv)), .val (.int (1 : Int32)), .val (.int (1 : Int32))] [(.int (1 : Int32))]))
      refine OGo.on (fun t k => XS.goto X56.here hx rfl (pc0 := 121) (pc' := 125) rfl (hb hby at_121) (by decide) (by decide) k) ?_
      show OGo p e below s _ _ _ (T56.setTop (mkF m 125 #[.val (.int vsel), .val (.long va), .second, .val (.long vb), .second, .val (.int (vsel &&& (3 : Int32))), .val (.long vv), .second, .val (.long vc), .second, .val (.ref b30), .val (.ref b38), .val (.int (own_hv vv)), .val (.int (1 : Int32)), .val (.int (1 : Int32))] [(.int (1 : Int32))]))
      exact OGo.retN X56 hx (t := .boolean) hret hlk (by simp) (hb hby at_125) ⟨rfl, N56⟩ (by decide) (by decide)
  refine OGo.on (fun t k => XS.iload X0.here hx rfl (hb hby at_5) rfl k) ?_
  show OGo p e below s _ _ _ (s₁.setTop (mkF m 7 #[.val (.int vsel), .val (.long va), .second, .val (.long vb), .second, .val (.int (vsel &&& (3 : Int32))), .unset, .unset, .unset, .unset, .unset, .unset, .unset, .unset, .unset] [(.int (vsel &&& (3 : Int32)))]))
  by_cases hc57 : (vsel &&& (3 : Int32)) = (0 : Int32)
  · refine OGo.on (fun t k => XS.ifNo X0.here hx rfl (hb hby at_7) rfl ((if0 _ _).trans (teq hc57).2) k) ?_
    show OGo p e below s _ _ _ (s₁.setTop (mkF m 10 #[.val (.int vsel), .val (.long va), .second, .val (.long vb), .second, .val (.int (vsel &&& (3 : Int32))), .unset, .unset, .unset, .unset, .unset, .unset, .unset, .unset, .unset] []))
    refine OGo.on (fun t k => XS.lconst X0.here hx rfl (hb hby at_10) k) ?_
    show OGo p e below s _ _ _ (s₁.setTop (mkF m 11 #[.val (.int vsel), .val (.long va), .second, .val (.long vb), .second, .val (.int (vsel &&& (3 : Int32))), .unset, .unset, .unset, .unset, .unset, .unset, .unset, .unset, .unset] [(.long (0 : Int64))]))
    refine OGo.on (fun t k => XS.lstore X0.here hx rfl (hb hby at_11) rfl (l' := #[.val (.int vsel), .val (.long va), .second, .val (.long vb), .second, .val (.int (vsel &&& (3 : Int32))), .val (.long (0 : Int64)), .second, .unset, .unset, .unset, .unset, .unset, .unset, .unset]) rfl k) ?_
    show OGo p e below s _ _ _ (s₁.setTop (mkF m 13 #[.val (.int vsel), .val (.long va), .second, .val (.long vb), .second, .val (.int (vsel &&& (3 : Int32))), .val (.long (0 : Int64)), .second, .unset, .unset, .unset, .unset, .unset, .unset, .unset] []))
    refine OGo.on (fun t k => XS.goto X0.here hx rfl (pc0 := 13) (pc' := 35) rfl (hb hby at_13) (by decide) (by decide) k) ?_
    show OGo p e below s _ _ _ (s₁.setTop (mkF m 35 #[.val (.int vsel), .val (.long va), .second, .val (.long vb), .second, .val (.int (vsel &&& (3 : Int32))), .val (.long (0 : Int64)), .second, .unset, .unset, .unset, .unset, .unset, .unset, .unset] []))
    exact J _ (by decide)
  · refine OGo.on (fun t k => XS.ifYes X0.here hx rfl (pc0 := 7) (pc' := 16) rfl (hb hby at_7) rfl ((if0 _ _).trans (feq hc57).2) (by decide) (by decide) k) ?_
    show OGo p e below s _ _ _ (s₁.setTop (mkF m 16 #[.val (.int vsel), .val (.long va), .second, .val (.long vb), .second, .val (.int (vsel &&& (3 : Int32))), .unset, .unset, .unset, .unset, .unset, .unset, .unset, .unset, .unset] []))
    refine OGo.on (fun t k => XS.iload X0.here hx rfl (hb hby at_16) rfl k) ?_
    show OGo p e below s _ _ _ (s₁.setTop (mkF m 18 #[.val (.int vsel), .val (.long va), .second, .val (.long vb), .second, .val (.int (vsel &&& (3 : Int32))), .unset, .unset, .unset, .unset, .unset, .unset, .unset, .unset, .unset] [(.int (vsel &&& (3 : Int32)))]))
    refine OGo.on (fun t k => XS.iconst X0.here hx rfl (hb hby at_18) k) ?_
    show OGo p e below s _ _ _ (s₁.setTop (mkF m 19 #[.val (.int vsel), .val (.long va), .second, .val (.long vb), .second, .val (.int (vsel &&& (3 : Int32))), .unset, .unset, .unset, .unset, .unset, .unset, .unset, .unset, .unset] [(.int (1 : Int32)), (.int (vsel &&& (3 : Int32)))]))
    by_cases hc58 : (vsel &&& (3 : Int32)) = (1 : Int32)
    · refine OGo.on (fun t k => XS.icmpNo X0.here hx rfl (hb hby at_19) rfl (teq hc58).2 k) ?_
      show OGo p e below s _ _ _ (s₁.setTop (mkF m 22 #[.val (.int vsel), .val (.long va), .second, .val (.long vb), .second, .val (.int (vsel &&& (3 : Int32))), .unset, .unset, .unset, .unset, .unset, .unset, .unset, .unset, .unset] []))
      refine OGo.on (fun t k => XS.lconst X0.here hx rfl (hb hby at_22) k) ?_
      show OGo p e below s _ _ _ (s₁.setTop (mkF m 23 #[.val (.int vsel), .val (.long va), .second, .val (.long vb), .second, .val (.int (vsel &&& (3 : Int32))), .unset, .unset, .unset, .unset, .unset, .unset, .unset, .unset, .unset] [(.long (1 : Int64))]))
      refine OGo.on (fun t k => XS.lstore X0.here hx rfl (hb hby at_23) rfl (l' := #[.val (.int vsel), .val (.long va), .second, .val (.long vb), .second, .val (.int (vsel &&& (3 : Int32))), .val (.long (1 : Int64)), .second, .unset, .unset, .unset, .unset, .unset, .unset, .unset]) rfl k) ?_
      show OGo p e below s _ _ _ (s₁.setTop (mkF m 25 #[.val (.int vsel), .val (.long va), .second, .val (.long vb), .second, .val (.int (vsel &&& (3 : Int32))), .val (.long (1 : Int64)), .second, .unset, .unset, .unset, .unset, .unset, .unset, .unset] []))
      refine OGo.on (fun t k => XS.goto X0.here hx rfl (pc0 := 25) (pc' := 35) rfl (hb hby at_25) (by decide) (by decide) k) ?_
      show OGo p e below s _ _ _ (s₁.setTop (mkF m 35 #[.val (.int vsel), .val (.long va), .second, .val (.long vb), .second, .val (.int (vsel &&& (3 : Int32))), .val (.long (1 : Int64)), .second, .unset, .unset, .unset, .unset, .unset, .unset, .unset] []))
      exact J _ (by decide)
    · refine OGo.on (fun t k => XS.icmpYes X0.here hx rfl (pc0 := 19) (pc' := 28) rfl (hb hby at_19) rfl (feq hc58).2 (by decide) (by decide) k) ?_
      show OGo p e below s _ _ _ (s₁.setTop (mkF m 28 #[.val (.int vsel), .val (.long va), .second, .val (.long vb), .second, .val (.int (vsel &&& (3 : Int32))), .unset, .unset, .unset, .unset, .unset, .unset, .unset, .unset, .unset] []))
      refine OGo.on (fun t k => XS.lloadN X0.here hx rfl (hb hby at_28) rfl k) ?_
      show OGo p e below s _ _ _ (s₁.setTop (mkF m 29 #[.val (.int vsel), .val (.long va), .second, .val (.long vb), .second, .val (.int (vsel &&& (3 : Int32))), .unset, .unset, .unset, .unset, .unset, .unset, .unset, .unset, .unset] [(.long va)]))
      refine OGo.on (fun t k => X0.ldc2J hx hown (mvT hZ (hw _ (List.mem_of_getElem? (i := 0) rfl))) (g := (mkF m 29 #[.val (.int vsel), .val (.long va), .second, .val (.long vb), .second, .val (.int (vsel &&& (3 : Int32))), .unset, .unset, .unset, .unset, .unset, .unset, .unset, .unset, .unset] [(.long va)])) rfl (hb hby at_29) k) ?_
      show OGo p e below s _ _ _ (s₁.setTop (mkF m 32 #[.val (.int vsel), .val (.long va), .second, .val (.long vb), .second, .val (.int (vsel &&& (3 : Int32))), .unset, .unset, .unset, .unset, .unset, .unset, .unset, .unset, .unset] [(.long (9223372036854775807 : Int64)), (.long va)]))
      refine OGo.on (fun t k => XS.land X0.here hx rfl (hb hby at_32) rfl k) ?_
      show OGo p e below s _ _ _ (s₁.setTop (mkF m 33 #[.val (.int vsel), .val (.long va), .second, .val (.long vb), .second, .val (.int (vsel &&& (3 : Int32))), .unset, .unset, .unset, .unset, .unset, .unset, .unset, .unset, .unset] [(.long (va &&& (9223372036854775807 : Int64)))]))
      refine OGo.on (fun t k => XS.lstore X0.here hx rfl (hb hby at_33) rfl (l' := #[.val (.int vsel), .val (.long va), .second, .val (.long vb), .second, .val (.int (vsel &&& (3 : Int32))), .val (.long (va &&& (9223372036854775807 : Int64))), .second, .unset, .unset, .unset, .unset, .unset, .unset, .unset]) rfl k) ?_
      show OGo p e below s _ _ _ (s₁.setTop (mkF m 35 #[.val (.int vsel), .val (.long va), .second, .val (.long vb), .second, .val (.int (vsel &&& (3 : Int32))), .val (.long (va &&& (9223372036854775807 : Int64))), .second, .unset, .unset, .unset, .unset, .unset, .unset, .unset] []))
      exact J _ (own_mask63 _)
set_option maxRecDepth 65536 in
set_option maxHeartbeats 40000000 in
theorem comes_1 {Post : Tables → Env → Array Value → State → Outcome → State → Prop} (hpost : ∀ tb e args s v u, (limb_1_1.after args s (.returned v) u = true ∧ limb_1_2.after args s (.returned v) u = true ∧ True) → FrameEnd s (.returned v) u (Jvm.fieldLocs frame_1_writes args s ++ Jvm.arrayLocs frame_1_arrays args s ++ Jvm.staticLocs frame_1_statics s) 16 128 → Post tb e args s (.returned v) u) :
    ArmFor flags0 classFile x code maxLocals ret World_1 tables_1 room_1 Calls_1 rest_1 Pre_1 Post := by
  intro l hfl _ _ p e ha hc hk s m args below hf hA hF happ hP
  obtain ⟨hcalls, hrest, hpre⟩ := hP
  obtain ⟨-, -, -, hnamed, -, -, -, hat⟩ := (Spec.applies_iff hf).mp happ
  obtain ⟨hg, hn⟩ := and_e (Cond.before_iff.mp (show (Jvm.Cond.and given_1 narrow_1).before args s = true from hpre))
  obtain ⟨gg59, gg60⟩ := and_e hg
  obtain ⟨gg61, gg62⟩ := and_e gg60
  obtain ⟨gg63, gg64⟩ := and_e gg62
  obtain ⟨w0, w1, w2, rfl⟩ : ∃ w0 w1 w2 : Value, args = #[w0, w1, w2] := by
    have hs : args.size = 3 := by simpa [Cond.value, given_1] using gg59
    obtain ⟨L⟩ := args
    match L, hs with
    | [w0, w1, w2], _ => exact ⟨w0, w1, w2, rfl⟩
  have hw := fun d (hd : d ∈ tables_1) => atoms_spec (ws := Jvm.Cond.code x code maxLocals ret :: tables_1) hat d (List.mem_cons_of_mem _ hd)
  obtain ⟨i0, ei0⟩ := is_v gg61
  obtain rfl : w0 = (.int i0) := Option.some.inj ei0
  obtain ⟨i1, ei1⟩ := isL_v gg63
  obtain rfl : w1 = (.long i1) := Option.some.inj ei1
  obtain ⟨i2, ei2⟩ := isL_v gg64
  obtain rfl : w2 = (.long i2) := Option.some.inj ei2
  obtain ⟨n, o, h1, h2, h3, _, L, rfl, ⟨rfl, N⟩, hq⟩ := own_law l s _ hw tables_1 i0 i1 i2 s.heap s.heap.size (Nat.le_refl _)  p e ha hc hk s m _ below hf ((Spec.applies_iff_loose hf).mp happ).1 ⟨rfl, State.Warmed39.refl s, rfl⟩ trivial
  refine ⟨n, _, h1, h2, h3, hpost _ _ _ _ _ _ ⟨Cond.after_iff.mpr rfl, Cond.after_iff.mpr (eq_i res_at (Term.int_eval (1)) rfl), trivial⟩ ⟨hq.1, hq.2.1, (hq.2.2.sift fun y hy => Or.inr (N y hy)).mono (by decide) (by decide)⟩⟩
theorem main_1_1 : Claimed_1_1 := comes_1 fun _ _ _ _ _ _ h hF => ⟨h.1, hF⟩
theorem main_1_2 : Claimed_1_2 := comes_1 fun _ _ _ _ _ _ h hF => ⟨h.2.1, hF⟩
end Jvm.Pilot.@@N@@
namespace Jvm.Pilot.@@N@@
open Jvm Jvm.ClassFile Sem Op Lib Jvm.Free Jvm.Stand Jvm.Pilot.@@N@@.Jvm.D
/-! MADE BY PROGRAM (witnessworld.py) out of the Statement's table words and the real class files: 15 classes; the members and pool entries that the words name. The judged class is class 1, her method 1. -/
namespace start1
open Jvm.ClassFile
def u (s : String) : CpInfo := .utf8 (stringToUtf16 s)
/-- a pool by its gaps: so many unusable entries, then the entry; so many at the end -/
def gap : Nat → List CpInfo → List CpInfo
  | 0, r => r
  | n + 1, r => .unusable :: gap n r
def poolList (es : List (Nat × CpInfo)) (last : Nat) : List CpInfo := es.foldr (fun e r => gap e.1 (e.2 :: r)) (gap last [])
def pool (es : List (Nat × CpInfo)) (last : Nat) : Array CpInfo := ⟨poolList es last⟩
def fileOf (pool : Array CpInfo) (this : Nat) (attrs : Array Attribute := #[]) (ms : Array MethodInfo := #[]) (fl : Nat := 33) (sup : Nat := 0) (ifs : Array Nat := #[]) (fds : Array FieldInfo := #[]) : ClassFile where
  minorVersion := 0
  majorVersion := 65
  constantPool := pool
  accessFlags := fl
  thisClass := this
  superClass := sup
  interfaces := ifs
  fields := fds
  methods := ms
  attributes := attrs
def plain (name : String) (sup : Option ClassId) : Class where
  name := name
  kind := .ordinary
  loader := none
  accessFlags := 33
  super := sup
  interfaces := #[]
  cf := none
  fields := #[]
  methods := #[]
  instanceTypes := #[]
  staticTypes := #[]
  resolved := #[]
  callSites := []
  init := .initialized
  statics := none
  mirror := none

def pool0 : Array CpInfo := pool [(5, u "<init>"), (0, u "()V"), (1, .class_ 10), (1, u "java/lang/Object")] 113

def k0c0 : Code := { maxStack := 0, maxLocals := 1, code := object_method_1_code, exceptionTable := #[], attributes := #[] }
def k0m0 : Method := { name := "<init>", desc := "()V", sig := { parameters := [], returnType := none }, accessFlags := 1, code := some k0c0 }
/-- java/lang/Object -/
def k0 : Class := { plain "java/lang/Object" none with
  accessFlags := 33
  interfaces := #[]
  cf := some (fileOf pool0 8 #[] #[{ accessFlags := 1, nameIndex := 5, descriptorIndex := 6, attributes := #[] }] 33 0 #[] #[])
  fields := #[]
  methods := #[k0m0]
  instanceTypes := #[]
  staticTypes := #[]
  resolved := Array.replicate 124 none
  statics := none }

def pool1 : Array CpInfo := pool [(2, .class_ 4), (1, u "java/lang/Object"), (0, u "<init>"), (0, u "()V"), (2, .long 9223372036854775807), (1, .class_ 12), (0, u "com/example/slotwright/slotwright/core/Score"), (0, .methodref 11 14), (0, .nameAndType 5 15), (0, u "(JJ)V"), (0, .methodref 11 17), (0, .nameAndType 18 19), (0, u "hasHardViolations"), (0, u "()Z"), (0, .methodref 11 21), (0, .nameAndType 22 23), (0, u "compareTo"), (0, u "(Lcom/example/slotwright/slotwright/core/Score;)I"), (0, .class_ 25), (0, u "com/example/slotwright/slotwright/core/ScoreHasHardViolationsPinLaw"), (2, u "law"), (0, u "(IJJ)Z")] 3

def k1m0 : Method := { name := "<init>", desc := "()V", sig := { parameters := [], returnType := none }, accessFlags := 1, code := none }
def k1c1 : Code := { maxStack := 6, maxLocals := 15, code := code, exceptionTable := #[], attributes := #[] }
def k1m1 : Method := { name := "law", desc := "(IJJ)Z", sig := { parameters := [.int, .long, .long], returnType := some .boolean }, accessFlags := 9, code := some k1c1 }
/-- com/example/slotwright/slotwright/core/ScoreHasHardViolationsPinLaw -/
def k1 : Class := { plain "com/example/slotwright/slotwright/core/ScoreHasHardViolationsPinLaw" (some 0) with
  accessFlags := 49
  interfaces := #[]
  cf := some (fileOf pool1 24 #[] #[{ accessFlags := 1, nameIndex := 5, descriptorIndex := 6, attributes := #[] }, { accessFlags := 9, nameIndex := 28, descriptorIndex := 29, attributes := #[] }] 49 2 #[] #[])
  fields := #[]
  methods := #[k1m0, k1m1]
  instanceTypes := #[]
  staticTypes := #[]
  resolved := Array.replicate 33 none
  statics := none }

def pool2 : Array CpInfo := pool [(1, .methodref 2 3), (0, .class_ 4), (0, .nameAndType 5 6), (0, u "java/lang/Object"), (0, u "<init>"), (0, u "()V"), (0, .class_ 8), (0, u "java/lang/Record")] 13

def k2c0 : Code := { maxStack := 1, maxLocals := 1, code := jdk_30_method_1_code, exceptionTable := #[], attributes := #[] }
def k2m0 : Method := { name := "<init>", desc := "()V", sig := { parameters := [], returnType := none }, accessFlags := 4, code := some k2c0 }
/-- java/lang/Record -/
def k2 : Class := { plain "java/lang/Record" (some 0) with
  accessFlags := 1057
  interfaces := #[]
  cf := some (fileOf pool2 7 #[] #[{ accessFlags := 4, nameIndex := 5, descriptorIndex := 6, attributes := #[] }] 1057 2 #[] #[])
  fields := #[]
  methods := #[k2m0]
  instanceTypes := #[]
  staticTypes := #[]
  resolved := Array.replicate 22 none
  statics := none }

def pool3 : Array CpInfo := pool [(1, .class_ 2), (0, u "java/lang/Comparable"), (0, .class_ 4), (0, u "java/lang/Object")] 7

/-- java/lang/Comparable -/
def k3 : Class := { plain "java/lang/Comparable" (some 0) with
  accessFlags := 1537
  interfaces := #[]
  cf := some (fileOf pool3 1 #[] #[] 1537 3 #[] #[])
  fields := #[]
  methods := #[]
  instanceTypes := #[]
  staticTypes := #[]
  resolved := Array.replicate 12 none
  statics := none }

def pool4 : Array CpInfo := pool [(1, .methodref 2 3), (0, .class_ 4), (0, .nameAndType 5 6), (0, u "java/lang/Record"), (0, u "<init>"), (0, u "()V"), (10, .fieldref 18 19), (0, .class_ 20), (0, .nameAndType 21 22), (0, u "com/example/slotwright/slotwright/core/Score"), (0, u "violations"), (0, u "J"), (0, .fieldref 18 24), (0, .nameAndType 25 22), (0, u "cost"), (0, .methodref 27 28), (0, .class_ 29), (0, .nameAndType 30 31), (0, u "java/lang/Long"), (0, u "compare"), (0, u "(JJ)I"), (2, u "compareTo"), (0, u "(Lcom/example/slotwright/slotwright/core/Score;)I"), (11, .class_ 48), (0, u "java/lang/Comparable"), (0, u "(JJ)V"), (4, u "hasHardViolations"), (0, u "()Z")] 38

def k4c0 : Code := { maxStack := 4, maxLocals := 5, code := prog_26_method_1_code, exceptionTable := #[], attributes := #[] }
def k4m0 : Method := { name := "<init>", desc := "(JJ)V", sig := { parameters := [.long, .long], returnType := none }, accessFlags := 1, code := some k4c0 }
def k4c1 : Code := { maxStack := 4, maxLocals := 1, code := prog_26_method_2_code, exceptionTable := #[], attributes := #[] }
def k4m1 : Method := { name := "hasHardViolations", desc := "()Z", sig := { parameters := [], returnType := some .boolean }, accessFlags := 1, code := some k4c1 }
def k4c2 : Code := { maxStack := 4, maxLocals := 3, code := prog_26_method_3_code, exceptionTable := #[], attributes := #[] }
def k4m2 : Method := { name := "compareTo", desc := "(Lcom/example/slotwright/slotwright/core/Score;)I", sig := { parameters := [(.object "com/example/slotwright/slotwright/core/Score")], returnType := some .int }, accessFlags := 1, code := some k4c2 }
/-- com/example/slotwright/slotwright/core/Score -/
def k4 : Class := { plain "com/example/slotwright/slotwright/core/Score" (some 2) with
  accessFlags := 49
  interfaces := #[3]
  cf := some (fileOf pool4 18 #[] #[{ accessFlags := 1, nameIndex := 5, descriptorIndex := 49, attributes := #[] }, { accessFlags := 1, nameIndex := 54, descriptorIndex := 55, attributes := #[] }, { accessFlags := 1, nameIndex := 34, descriptorIndex := 35, attributes := #[] }] 49 2 #[47] #[{ accessFlags := 18, nameIndex := 21, descriptorIndex := 22, attributes := #[] }, { accessFlags := 18, nameIndex := 25, descriptorIndex := 22, attributes := #[] }])
  fields := #[{ name := "violations", type := .long, accessFlags := 18, slot := 0, constantValue := 0 }, { name := "cost", type := .long, accessFlags := 18, slot := 1, constantValue := 0 }]
  methods := #[k4m0, k4m1, k4m2]
  instanceTypes := #[.long, .long]
  staticTypes := #[]
  resolved := Array.replicate 94 none
  statics := none }

def pool5 : Array CpInfo := pool [(1, .class_ 2), (0, u "java/io/Serializable"), (0, .class_ 4), (0, u "java/lang/Object")] 2

/-- java/io/Serializable -/
def k5 : Class := { plain "java/io/Serializable" (some 0) with
  accessFlags := 1537
  interfaces := #[]
  cf := some (fileOf pool5 1 #[] #[] 1537 3 #[] #[])
  fields := #[]
  methods := #[]
  instanceTypes := #[]
  staticTypes := #[]
  resolved := Array.replicate 7 none
  statics := none }

def pool6 : Array CpInfo := pool [(2, .class_ 4), (1, u "java/lang/Object"), (0, u "<init>"), (0, u "()V"), (1, .class_ 10), (1, u "java/lang/Number"), (2, .class_ 14), (0, u "java/io/Serializable"), (0, u "serialVersionUID"), (0, u "J")] 20

def k6m0 : Method := { name := "<init>", desc := "()V", sig := { parameters := [], returnType := none }, accessFlags := 1, code := none }
/-- java/lang/Number -/
def k6 : Class := { plain "java/lang/Number" (some 0) with
  accessFlags := 1057
  interfaces := #[5]
  cf := some (fileOf pool6 8 #[] #[{ accessFlags := 1, nameIndex := 5, descriptorIndex := 6, attributes := #[] }] 1057 2 #[13] #[{ accessFlags := 26, nameIndex := 15, descriptorIndex := 16, attributes := #[] }])
  fields := #[{ name := "serialVersionUID", type := .long, accessFlags := 26, slot := 0, constantValue := 0 }]
  methods := #[k6m0]
  instanceTypes := #[]
  staticTypes := #[.long]
  resolved := Array.replicate 37 none
  statics := none }

def pool7 : Array CpInfo := pool [(1, .class_ 2), (0, u "java/lang/constant/Constable"), (0, .class_ 4), (0, u "java/lang/Object")] 6

/-- java/lang/constant/Constable -/
def k7 : Class := { plain "java/lang/constant/Constable" (some 0) with
  accessFlags := 1537
  interfaces := #[]
  cf := some (fileOf pool7 1 #[] #[] 1537 3 #[] #[])
  fields := #[]
  methods := #[]
  instanceTypes := #[]
  staticTypes := #[]
  resolved := Array.replicate 11 none
  statics := none }

def pool8 : Array CpInfo := pool [(1, .class_ 2), (0, u "java/lang/constant/ConstantDesc"), (0, .class_ 4), (0, u "java/lang/Object")] 32

/-- java/lang/constant/ConstantDesc -/
def k8 : Class := { plain "java/lang/constant/ConstantDesc" (some 0) with
  accessFlags := 1537
  interfaces := #[]
  cf := some (fileOf pool8 1 #[] #[] 1537 3 #[] #[])
  fields := #[]
  methods := #[]
  instanceTypes := #[]
  staticTypes := #[]
  resolved := Array.replicate 37 none
  statics := none }

def pool9 : Array CpInfo := pool [(1, .class_ 2), (0, u "java/lang/Long"), (232, .class_ 237), (1, u "java/lang/Long$LongCache"), (33, .class_ 272), (0, u "java/lang/Number"), (2, u "value"), (0, u "J"), (27, u "compare"), (0, u "(JJ)I"), (55, u "TYPE"), (0, u "Ljava/lang/Class;"), (0, .class_ 364), (0, u "java/lang/Comparable"), (0, .class_ 366), (0, u "java/lang/constant/Constable"), (0, .class_ 368), (0, u "java/lang/constant/ConstantDesc"), (0, u "MIN_VALUE"), (1, u "MAX_VALUE"), (4, u "SIZE"), (0, u "I"), (1, u "BYTES"), (1, u "serialVersionUID")] 142

def k9c0 : Code := { maxStack := 4, maxLocals := 4, code := jdk_35_method_42_code, exceptionTable := #[], attributes := #[] }
def k9m0 : Method := { name := "compare", desc := "(JJ)I", sig := { parameters := [.long, .long], returnType := some .int }, accessFlags := 9, code := some k9c0 }
/-- java/lang/Long -/
def k9 : Class := { plain "java/lang/Long" (some 6) with
  accessFlags := 49
  interfaces := #[3, 7, 8]
  cf := some (fileOf pool9 1 #[.nestMembers #[235]] #[{ accessFlags := 9, nameIndex := 304, descriptorIndex := 305, attributes := #[] }] 49 271 #[363, 365, 367] #[{ accessFlags := 25, nameIndex := 369, descriptorIndex := 276, attributes := #[] }, { accessFlags := 25, nameIndex := 371, descriptorIndex := 276, attributes := #[] }, { accessFlags := 25, nameIndex := 361, descriptorIndex := 362, attributes := #[] }, { accessFlags := 18, nameIndex := 275, descriptorIndex := 276, attributes := #[] }, { accessFlags := 25, nameIndex := 376, descriptorIndex := 377, attributes := #[] }, { accessFlags := 25, nameIndex := 379, descriptorIndex := 377, attributes := #[] }, { accessFlags := 26, nameIndex := 381, descriptorIndex := 276, attributes := #[] }])
  fields := #[{ name := "MIN_VALUE", type := .long, accessFlags := 25, slot := 0, constantValue := 0 }, { name := "MAX_VALUE", type := .long, accessFlags := 25, slot := 1, constantValue := 0 }, { name := "TYPE", type := (.object "java/lang/Class"), accessFlags := 25, slot := 2, constantValue := 0 }, { name := "value", type := .long, accessFlags := 18, slot := 0, constantValue := 0 }, { name := "SIZE", type := .int, accessFlags := 25, slot := 3, constantValue := 0 }, { name := "BYTES", type := .int, accessFlags := 25, slot := 4, constantValue := 0 }, { name := "serialVersionUID", type := .long, accessFlags := 26, slot := 5, constantValue := 0 }]
  methods := #[k9m0]
  instanceTypes := #[.long]
  staticTypes := #[.long, .long, (.object "java/lang/Class"), .int, .int, .long]
  resolved := Array.replicate 524 none
  statics := none }

def pool10 : Array CpInfo := pool [(1, u "java/lang/Cloneable"), (0, .class_ 1), (0, u "java/lang/Object"), (0, .class_ 3)] 3

/-- java/lang/Cloneable -/
def k10 : Class := { plain "java/lang/Cloneable" (some 0) with
  accessFlags := 1537
  interfaces := #[]
  cf := some (fileOf pool10 2 #[] #[] 1537 4 #[] #[])
  fields := #[]
  methods := #[]
  instanceTypes := #[]
  staticTypes := #[]
  resolved := Array.replicate 8 none
  statics := none }

/-- the primitive byte -/
def k11 : Class := { plain "byte" none with kind := .primitive 'B', accessFlags := 0x411 }
/-- [B -/
def k12 : Class := { plain "[B" (some 0) with kind := .array 11 .byte, interfaces := #[10, 5], accessFlags := 1041 }

/-- the primitive int -/
def k13 : Class := { plain "int" none with kind := .primitive 'I', accessFlags := 0x411 }
/-- [I -/
def k14 : Class := { plain "[I" (some 0) with kind := .array 13 .int, interfaces := #[10, 5], accessFlags := 1041 }

def heap : Heap := #[]
def classes : Array Class := #[k0, k1, k2, k3, k4, k5, k6, k7, k8, k9, k10, k11, k12, k13, k14]
def interned : List (Array UInt16 × Addr) := []
def slotsUsed : Nat := 0
def theMethod : MethodId := ⟨1, 1⟩
def args0 : Array Value := #[.int 5, .long 3, .long 7]
def aboutOver (below : List Frame) : State where
  vm := { classes := classes, interned := interned.toArray }
  heap := heap
  slotsUsed := slotsUsed
  threads := #[{ frames := .invoking theMethod args0 :: below }]
def below0 : List Frame := [.native { method := ⟨0, 0⟩, args := #[] }]
def about1 : State := aboutOver below0
def p0 : Program := .bare "" "" ""
def e0 : Env := launch0.env 0 0 0
theorem w_frames : about1.frames = Frame.invoking theMethod args0 :: below0 := rfl
set_option maxRecDepth 65536 in
theorem w_args : argsFit about1.vm theMethod args0 = true := by decide +kernel
set_option maxRecDepth 65536 in
theorem w_heap : heapFits about1 = true := by decide +kernel
set_option maxRecDepth 65536 in
theorem w_runnable : about1.curStatus? = some .runnable := by decide +kernel
set_option maxRecDepth 65536 in
theorem w_alone : about1.alone = true := by decide +kernel
set_option maxRecDepth 65536 in
theorem w_named : about1.methodNamed? x = some theMethod := by decide +kernel
set_option maxRecDepth 65536 in
theorem w_hears : about1.hears theMethod below0 = true := by decide +kernel
set_option maxRecDepth 65536 in
theorem w_ripe : about1.ripe theMethod args0 below0 = true := by decide +kernel
theorem w_running : about1.status = .running := rfl
set_option maxRecDepth 65536 in
theorem w_room : about1.hasRoom e0.platform room_1 = true :=
  launch0.hasRoom_least _ room_1 (by decide +kernel) (by decide +kernel) (by decide +kernel) (by decide +kernel) (by decide +kernel) (by decide +kernel)
theorem allAtoms_all (ts : List Jvm.Cond) (a : Array Jvm.Value) (st : Jvm.State) : (allAtoms ts).before a st = ts.all (fun c => c.before a st) := by
  induction ts with
  | nil => rfl
  | cons c t ih =>
    show (Jvm.Cond.and c (allAtoms t)).before a st = _
    rw [Jvm.Cond.before_and, ih, List.all_cons]
def words1 : List Jvm.Cond := Jvm.Cond.code x code maxLocals ret :: tables_1
/-- a 'code' word, met by the world's own term for the bytes: nothing is compared byte by byte -/
theorem code_word {y : MethodName} {bytes : ByteArray} {mx : Nat} {rt : Option FieldType} {a : Array Value} {s : State} {m : MethodId} {meth : Method} {c : Code} (h1 : s.methodNamed? y = some m) (h2 : s.vm.method? m = some meth) (h3 : meth.code = some c) (h4 : c.code = bytes)
    (h5 : (c.maxLocals == mx && c.exceptionTable.isEmpty && decide (c.maxStack ≤ mostOperands) && decide (meth.sig.returnType = rt) && !meth.locks && decide (parseMethodDescriptor y.desc = some meth.sig)) = true) : (Jvm.Cond.code y bytes mx rt).before a s = true := by
  simp only [Bool.and_eq_true, beq_iff_eq, Bool.not_eq_true', decide_eq_true_eq] at h5
  obtain ⟨⟨⟨⟨⟨g1, g2⟩, g3⟩, g4⟩, g5⟩, g6⟩ := h5
  simp [Cond.before, Cond.holds, Cond.value, h1, h2, h3, h4, g1, g2, g3, g4, g5, g6]
def isCode : Jvm.Cond → Bool
  | .code _ _ _ _ => true
  | _ => false
theorem all_split {L : List Jvm.Cond} {P : Jvm.Cond → Bool} (h1 : L.all (fun c => isCode c || P c) = true) (h2 : ∀ c ∈ L.filter isCode, P c = true) : L.all P = true := by
  refine List.all_eq_true.mpr fun c hc => ?_
  have h := List.all_eq_true.mp h1 c hc
  rcases Bool.eq_false_or_eq_true (isCode c) with hi | hi
  · exact h2 c (List.mem_filter.mpr ⟨hc, hi⟩)
  · simpa [hi] using h
set_option maxRecDepth 65536 in
theorem w_c0 : (Jvm.Cond.code x code maxLocals ret).before args0 about1 = true := code_word (m := ⟨1, 1⟩) (meth := k1m1) (c := k1c1) (by decide +kernel) rfl rfl rfl (by decide +kernel)
set_option maxRecDepth 65536 in
theorem w_c1 : (Jvm.Cond.code ({ cls := "com/example/slotwright/slotwright/core/Score", name := "<init>", desc := "(JJ)V" } : Jvm.MethodName) prog_26_method_1_code (5 : Nat) (Option.none : Option Jvm.ClassFile.FieldType)).before args0 about1 = true := code_word (m := ⟨4, 0⟩) (meth := k4m0) (c := k4c0) (by decide +kernel) rfl rfl rfl (by decide +kernel)
set_option maxRecDepth 65536 in
theorem w_c2 : (Jvm.Cond.code ({ cls := "java/lang/Record", name := "<init>", desc := "()V" } : Jvm.MethodName) jdk_30_method_1_code (1 : Nat) (Option.none : Option Jvm.ClassFile.FieldType)).before args0 about1 = true := code_word (m := ⟨2, 0⟩) (meth := k2m0) (c := k2c0) (by decide +kernel) rfl rfl rfl (by decide +kernel)
set_option maxRecDepth 65536 in
theorem w_c3 : (Jvm.Cond.code ({ cls := "java/lang/Object", name := "<init>", desc := "()V" } : Jvm.MethodName) object_method_1_code (1 : Nat) (Option.none : Option Jvm.ClassFile.FieldType)).before args0 about1 = true := code_word (m := ⟨0, 0⟩) (meth := k0m0) (c := k0c0) (by decide +kernel) rfl rfl rfl (by decide +kernel)
set_option maxRecDepth 65536 in
theorem w_c4 : (Jvm.Cond.code ({ cls := "com/example/slotwright/slotwright/core/Score", name := "hasHardViolations", desc := "()Z" } : Jvm.MethodName) prog_26_method_2_code (1 : Nat) (Option.some Jvm.ClassFile.FieldType.boolean)).before args0 about1 = true := code_word (m := ⟨4, 1⟩) (meth := k4m1) (c := k4c1) (by decide +kernel) rfl rfl rfl (by decide +kernel)
set_option maxRecDepth 65536 in
theorem w_c5 : (Jvm.Cond.code ({ cls := "com/example/slotwright/slotwright/core/Score", name := "compareTo", desc := "(Lcom/example/slotwright/slotwright/core/Score;)I" } : Jvm.MethodName) prog_26_method_3_code (3 : Nat) (Option.some Jvm.ClassFile.FieldType.int)).before args0 about1 = true := code_word (m := ⟨4, 2⟩) (meth := k4m2) (c := k4c2) (by decide +kernel) rfl rfl rfl (by decide +kernel)
set_option maxRecDepth 65536 in
theorem w_c6 : (Jvm.Cond.code ({ cls := "java/lang/Long", name := "compare", desc := "(JJ)I" } : Jvm.MethodName) jdk_35_method_42_code (4 : Nat) (Option.some Jvm.ClassFile.FieldType.int)).before args0 about1 = true := code_word (m := ⟨9, 0⟩) (meth := k9m0) (c := k9c0) (by decide +kernel) rfl rfl rfl (by decide +kernel)
def codes1 : List Jvm.Cond := [Jvm.Cond.code x code maxLocals ret, Jvm.Cond.code ({ cls := "com/example/slotwright/slotwright/core/Score", name := "<init>", desc := "(JJ)V" } : Jvm.MethodName) prog_26_method_1_code (5 : Nat) (Option.none : Option Jvm.ClassFile.FieldType), Jvm.Cond.code ({ cls := "java/lang/Record", name := "<init>", desc := "()V" } : Jvm.MethodName) jdk_30_method_1_code (1 : Nat) (Option.none : Option Jvm.ClassFile.FieldType), Jvm.Cond.code ({ cls := "java/lang/Object", name := "<init>", desc := "()V" } : Jvm.MethodName) object_method_1_code (1 : Nat) (Option.none : Option Jvm.ClassFile.FieldType), Jvm.Cond.code ({ cls := "com/example/slotwright/slotwright/core/Score", name := "hasHardViolations", desc := "()Z" } : Jvm.MethodName) prog_26_method_2_code (1 : Nat) (Option.some Jvm.ClassFile.FieldType.boolean), Jvm.Cond.code ({ cls := "com/example/slotwright/slotwright/core/Score", name := "compareTo", desc := "(Lcom/example/slotwright/slotwright/core/Score;)I" } : Jvm.MethodName) prog_26_method_3_code (3 : Nat) (Option.some Jvm.ClassFile.FieldType.int), Jvm.Cond.code ({ cls := "java/lang/Long", name := "compare", desc := "(JJ)I" } : Jvm.MethodName) jdk_35_method_42_code (4 : Nat) (Option.some Jvm.ClassFile.FieldType.int)]
set_option maxRecDepth 65536 in
theorem codes_eq : words1.filter isCode = codes1 := rfl
theorem w_codes : ∀ c ∈ words1.filter isCode, c.before args0 about1 = true := by
  rw [codes_eq]
  intro c hc
  simp only [codes1, List.mem_cons, List.not_mem_nil, or_false] at hc
  rcases hc with rfl | rfl | rfl | rfl | rfl | rfl | rfl
  · exact w_c0
  · exact w_c1
  · exact w_c2
  · exact w_c3
  · exact w_c4
  · exact w_c5
  · exact w_c6
set_option maxRecDepth 65536 in
theorem w_t1 : (words1.take 24).all (fun c => isCode c || c.before args0 about1) = true := by decide +kernel
set_option maxRecDepth 65536 in
theorem w_t2 : (words1.drop 24).all (fun c => isCode c || c.before args0 about1) = true := by decide +kernel
theorem w_tables : (allAtoms (Jvm.Cond.code x code maxLocals ret :: tables_1)).before args0 about1 = true := by
  rw [allAtoms_all]
  show words1.all (fun c => c.before args0 about1) = true
  refine all_split ?_ w_codes
  rw [← List.take_append_drop 24 words1, List.all_append, w_t1, w_t2]
  rfl
set_option maxRecDepth 65536 in
theorem w_case : (Jvm.Cond.and given_1 narrow_1).before args0 about1 = true := by decide +kernel
theorem w_applies : (headSpec (Jvm.Cond.code x code maxLocals ret :: tables_1) room_1).applies x e0.platform about1 = true :=
  (Spec.applies_iff w_frames).mpr ⟨w_running, w_runnable, w_alone, w_named, w_hears, w_ripe, w_room, w_tables⟩
theorem atStart : AtStart classFile x code maxLocals ret World_1 tables_1 room_1 Calls_1 rest_1 Pre_1 launch0 p0 e0 about1 theMethod args0 below0 :=
  ⟨lists_1, trivial, launch0.admits_env _ _ _, launch0.least_env, fairChoices_fair.cas, fairChoices_fair.clock, w_frames, w_args, w_heap, w_applies, trivial, trivial, w_case⟩
end start1
theorem witness_1 : WitnessClaimed_1 := ⟨start1.p0, start1.e0, start1.about1, start1.theMethod, start1.args0, start1.below0, start1.atStart⟩
end Jvm.Pilot.@@N@@
