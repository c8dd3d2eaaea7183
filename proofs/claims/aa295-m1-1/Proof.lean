import JvmDerived
import JvmDerived.Pilot.@@N@@Statement
import JvmDerived.Pilot.@@N@@Code
set_option linter.unusedVariables false
set_option linter.unusedSimpArgs false
@@BLOCK:NumsL.lean.txt@@
namespace Jvm.RoadKit
open Sem ClassFile Op Lib Jvm.Stand Jvm.Free Jvm.LawKit
section Own
variable {p : Program} {l : Launch} {e : Env} {R : Room} {s : State} {m : MethodId} {args : Array Value} {below : List Frame} {meth : Method} {c : Code} {T : State} {locs : List Loc} {cells slots : Nat} {Z : State} {h h' : Heap} {Q : Option Value → Heap → List Loc → Prop} {kc ks : Nat}
/-- from the state S the run comes to an end of which Q holds -/
def OGo (p : Program) (e : Env) (below : List Frame) (s : State) (Q : Option Value → Heap → List Loc → Prop) (kc ks : Nat) (S : State) : Prop :=
  ∃ s₂ o, Steps p.tables e below S s₂ ∧ s₂.status = .running ∧ Ended s₂ below o ∧ ∃ v L, o = .returned v ∧ Q v s₂.heap L ∧ FrameEnd s o s₂ L kc ks
theorem OGo.on {C N : State} (st : ∀ t, Steps p.tables e below N t → Steps p.tables e below C t) (h : OGo p e below s Q kc ks N) : OGo p e below s Q kc ks C := by
  obtain ⟨s₂, o, h1, h2⟩ := h
  exact ⟨s₂, o, st _ h1, h2⟩
theorem OGo.fin (X : Stand p l e R s m args below meth c T locs cells slots) {v : Option Value} (hv : meth.sig.returnType = none → v = none) (hlocks : meth.locks = false) {C : State}
    (st : ∀ fs, (∀ (f : JFrame) (acts : List Action), f.method = m → f.locked = none → f.entered = [] → (doReturn e (T.setTop f) acts v).1 = T.setFrames fs) → Steps p.tables e below C (T.setFrames fs)) (hq : Q v T.heap locs) (hc : cells ≤ kc) (hs : slots ≤ ks) : OGo p e below s Q kc ks C := by
  obtain ⟨fs, hr, hrun, hended, hW, hsame⟩ := X.leave hv hlocks
  exact ⟨_, _, st fs hr, hrun, hended, v, locs, rfl, hq, ⟨_, rfl⟩, hW, hsame.mono hc hs⟩
theorem OGo.retN (X : Stand p l e R s m args below meth c T locs cells slots) (hx : p.tables.exec = Jvm.exec) {pc : Nat} {Ls : Array Slot} {z : Int32} {t : FieldType} {rest : List Value} (hret : meth.sig.returnType = some t) (hlocks : meth.locks = false) (ht : t = .boolean ∨ t = .byte ∨ t = .char ∨ t = .short)
    (hd : decode c.code pc = .ok (.ireturn, 1)) (hq : Q (some (.int (nar t z))) T.heap locs) (hc : cells ≤ kc) (hs : slots ≤ ks) : OGo p e below s Q kc ks (T.setTop (mkF m pc Ls (.int z :: rest))) :=
  OGo.fin X (fun h => by rw [hret] at h; cases h) hlocks (fun fs hr => Jvm.RoadKit.retN X hx hret ht hd hr) hq hc hs
theorem OGo.retI (X : Stand p l e R s m args below meth c T locs cells slots) (hx : p.tables.exec = Jvm.exec) {pc : Nat} {Ls : Array Slot} {z : Int32} {rest : List Value} (hret : meth.sig.returnType = some .int) (hlocks : meth.locks = false)
    (hd : decode c.code pc = .ok (.ireturn, 1)) (hq : Q (some (.int z)) T.heap locs) (hc : cells ≤ kc) (hs : slots ≤ ks) : OGo p e below s Q kc ks (T.setTop (mkF m pc Ls (.int z :: rest))) :=
  OGo.fin X (fun h => by rw [hret] at h; cases h) hlocks (fun fs hr => retOut X hx hret rfl (Or.inl ⟨rfl, Or.inl rfl, _, rfl⟩) hd hr) hq hc hs
theorem OGo.retJ (X : Stand p l e R s m args below meth c T locs cells slots) (hx : p.tables.exec = Jvm.exec) {pc : Nat} {Ls : Array Slot} {z : Int64} {rest : List Value} (hret : meth.sig.returnType = some .long) (hlocks : meth.locks = false)
    (hd : decode c.code pc = .ok (.lreturn, 1)) (hq : Q (some (.long z)) T.heap locs) (hc : cells ≤ kc) (hs : slots ≤ ks) : OGo p e below s Q kc ks (T.setTop (mkF m pc Ls (.long z :: rest))) :=
  OGo.fin X (fun h => by rw [hret] at h; cases h) hlocks (fun fs hr => retOut X hx hret rfl (Or.inr (Or.inl ⟨rfl, rfl, _, rfl⟩)) hd hr) hq hc hs
theorem OGo.retA (X : Stand p l e R s m args below meth c T locs cells slots) (hx : p.tables.exec = Jvm.exec) {pc : Nat} {Ls : Array Slot} {a : Addr} {t : FieldType} {rest : List Value} (hret : meth.sig.returnType = some t) (ht : t.isReference = true) (hn : narrow t (.ref a) = .ref a) (hlocks : meth.locks = false)
    (hd : decode c.code pc = .ok (.areturn, 1)) (hq : Q (some (.ref a)) T.heap locs) (hc : cells ≤ kc) (hs : slots ≤ ks) : OGo p e below s Q kc ks (T.setTop (mkF m pc Ls (.ref a :: rest))) :=
  OGo.fin X (fun h => by rw [hret] at h; cases h) hlocks (fun fs hr => retOut X hx hret hn (Or.inr (Or.inr (Or.inr (Or.inr ⟨rfl, ht, rfl⟩)))) hd hr) hq hc hs
theorem OGo.ret0 (X : Stand p l e R s m args below meth c T locs cells slots) (hx : p.tables.exec = Jvm.exec) {pc : Nat} {Ls : Array Slot} (hret : meth.sig.returnType = none) (hlocks : meth.locks = false)
    (hd : decode c.code pc = .ok (.return_, 1)) (hq : Q none T.heap locs) (hc : cells ≤ kc) (hs : slots ≤ ks) : OGo p e below s Q kc ks (T.setTop (mkF m pc Ls [])) :=
  OGo.fin X (fun _ => rfl) hlocks (fun fs hr => X.returnOut hx hret hd hr) hq hc hs
/-- what a body that writes nothing leaves -/
def OPure (n0 : Nat) (h0 : Heap) (r : Option Value) (v : Option Value) (h : Heap) (L : List Loc) : Prop := v = r ∧ Fr n0 L ∧ h = h0
theorem opI {n0 : Nat} {h0 : Heap} {x y : Int32} {L : List Loc} (q : x = y) (N : Fr n0 L) (E : h = h0) : OPure n0 h0 (some (.int y)) (some (.int x)) h L := ⟨by rw [q], N, E⟩
theorem opJ {n0 : Nat} {h0 : Heap} {x y : Int64} {L : List Loc} (q : x = y) (N : Fr n0 L) (E : h = h0) : OPure n0 h0 (some (.long y)) (some (.long x)) h L := ⟨by rw [q], N, E⟩
theorem own_nz1 : nar .boolean 1 = 1 := rfl
theorem own_nz0 : nar .boolean 0 = 0 := rfl
theorem own_irem {C : State} {x y : Int32} {g : JFrame} (X : Stand p l e R s m args below meth c T locs cells slots) (hx : p.tables.exec = Jvm.exec) (hg : g.method = m) {rest : List Value} (hd : decode c.code g.pc = .ok (.irem, 1)) (hs : g.stack = .int y :: .int x :: rest) (hy : y ≠ 0) :
    ∀ t, Steps p.tables e below (T.setTop { g with pc := g.pc + 1, stack := .int (x % y) :: rest }) t → Steps p.tables e below (T.setTop g) t := fun t k => iremM X hx hg hd hs hy k
/-! lcmp and the branch behind it -/
theorem own_lc (cd : ClassFile.Cond) (a b : Int64) : ifCond.holds cd (lcmpW a b) = (match cd with | .eq => decide (a = b) | .ne => !decide (a = b) | .lt => decide (a < b) | .ge => !decide (a < b) | .gt => decide (b < a) | .le => !decide (b < a)) := by
  have h1 : a = b ↔ a.toInt = b.toInt := (Int64.toInt_inj).symm
  by_cases g : a > b
  · have g' : b.toInt < a.toInt := Int64.lt_iff_toInt_lt.mp g
    have e1 : lcmpW a b = 1 := if_pos g
    have e2 : ¬ a = b := fun q => by rw [h1] at q; omega
    have e3 : ¬ a < b := fun q => by rw [Int64.lt_iff_toInt_lt] at q; omega
    have e4 : b < a := g
    rw [e1]; cases cd <;> simp [e2, e3, e4] <;> decide
  · by_cases q : a = b
    · have e1 : lcmpW a b = 0 := by rw [lcmpW, if_neg g, if_pos q]
      subst q
      have e3 : ¬ a < a := fun q => by rw [Int64.lt_iff_toInt_lt] at q; omega
      rw [e1]; cases cd <;> simp [e3] <;> decide
    · have e1 : lcmpW a b = -1 := by rw [lcmpW, if_neg g, if_neg q]
      have g1 : ¬ b < a := g
      have g2 : a < b := by rw [Int64.lt_iff_toInt_lt] at g1 ⊢; rw [h1] at q; omega
      rw [e1]; cases cd <;> simp [q, g1, g2] <;> decide
theorem lc_tlt {a b : Int64} (h : a < b) : ifCond.holds .lt (lcmpW a b) = true ∧ ifCond.holds .ge (lcmpW a b) = false ∧ ifCond.holds .gt (lcmpW b a) = true ∧ ifCond.holds .le (lcmpW b a) = false := by simp only [own_lc]; simp [h]
theorem lc_flt {a b : Int64} (h : ¬ a < b) : ifCond.holds .lt (lcmpW a b) = false ∧ ifCond.holds .ge (lcmpW a b) = true ∧ ifCond.holds .gt (lcmpW b a) = false ∧ ifCond.holds .le (lcmpW b a) = true := by simp only [own_lc]; simp [h]
theorem lc_teq {a b : Int64} (h : a = b) : ifCond.holds .eq (lcmpW a b) = true ∧ ifCond.holds .ne (lcmpW a b) = false := by simp only [own_lc]; simp [h]
theorem lc_feq {a b : Int64} (h : ¬ a = b) : ifCond.holds .eq (lcmpW a b) = false ∧ ifCond.holds .ne (lcmpW a b) = true := by simp only [own_lc]; simp [h]
theorem own_nm0 {a : Addr} : a ∉ ([] : List Addr) := fun q => nomatch q
theorem own_nm1 {a b : Addr} (h : a ≠ b) : a ∉ [b] := fun q => h (List.mem_singleton.mp q)
theorem own_nm2 {a b d : Addr} (h : a ≠ b) (h' : a ≠ d) : a ∉ [b, d] := fun q => (List.mem_cons.mp q).elim h fun q => h' (List.mem_singleton.mp q)
theorem own_nm3 {a b d f : Addr} (h : a ≠ b) (h' : a ≠ d) (h'' : a ≠ f) : a ∉ [b, d, f] := fun q => (List.mem_cons.mp q).elim h fun q => (own_nm2 h' h'') q
/-! arrays of numbers, known whole -/
/-- the array at a holds just the ints vs -/
def OAL (Z : State) (h : Heap) (a : Addr) (ty : FieldType) (vs : List Int32) : Prop := ∃ c : Cell, Arr Z h a c ty ∧ c.slots = (vs.map Value.int).toArray
/-- the array at a holds just the longs vs -/
def OAJ (Z : State) (h : Heap) (a : Addr) (vs : List Int64) : Prop := ∃ c : Cell, Arr Z h a c .long ∧ c.slots = (vs.map Value.long).toArray
/-- the place j lies inside and holds v -/
def OAt {α : Type} (vs : List α) (j : Int32) (v : α) : Prop := ¬ j < 0 ∧ vs[j.toNatClampNeg]? = some v
variable {a b : Addr} {ty : FieldType} {vs : List Int32} {us : List Int64} {ws : List Addr} {sl : Nat} {w : Value}
theorem OAL.lt (A : OAL Z h a ty vs) : a < h.size := by obtain ⟨c, A, -⟩ := A; exact A.lt
theorem OAJ.lt (A : OAJ Z h a us) : a < h.size := by obtain ⟨c, A, -⟩ := A; exact A.lt
theorem OAL.ext (A : OAL Z h a ty vs) (E : Ext h h') : OAL Z h' a ty vs := by obtain ⟨c, A, r⟩ := A; exact ⟨c, A.ext E, r⟩
theorem OAJ.ext (A : OAJ Z h a us) (E : Ext h h') : OAJ Z h' a us := by obtain ⟨c, A, r⟩ := A; exact ⟨c, A.ext E, r⟩
theorem OAL.keep (A : OAL Z h a ty vs) (K : Keep h h' ws) (q : a ∉ ws) : OAL Z h' a ty vs := by obtain ⟨c, A, r⟩ := A; exact ⟨c, ⟨K.2.1 a c A.1 q, A.2⟩, r⟩
theorem OAJ.keep (A : OAJ Z h a us) (K : Keep h h' ws) (q : a ∉ ws) : OAJ Z h' a us := by obtain ⟨c, A, r⟩ := A; exact ⟨c, ⟨K.2.1 a c A.1 q, A.2⟩, r⟩
theorem OAL.other (A : OAL Z h b ty vs) (W : Wr h h' a sl w) (q : b ≠ a) : OAL Z h' b ty vs := by obtain ⟨c, A, r⟩ := A; exact ⟨c, A.other W q, r⟩
theorem OAJ.other (A : OAJ Z h b us) (W : Wr h h' a sl w) (q : b ≠ a) : OAJ Z h' b us := by obtain ⟨c, A, r⟩ := A; exact ⟨c, A.other W q, r⟩
theorem own_slots (cl : Cell) (i : Nat) (v : Value) : (cl.setSlot i v).slots = cl.slots.setIfInBounds i v := rfl
theorem OAL.same (A : OAL Z h a ty vs) {i : Nat} {x : Int32} (W : Wr h h' a i (.int x)) : OAL Z h' a ty (vs.set i x) := by
  obtain ⟨c, A, r⟩ := A
  exact ⟨_, A.same W, by rw [own_slots, r]; simp [List.map_set]⟩
theorem OAJ.same (A : OAJ Z h a us) {i : Nat} {x : Int64} (W : Wr h h' a i (.long x)) : OAJ Z h' a (us.set i x) := by
  obtain ⟨c, A, r⟩ := A
  exact ⟨_, A.same W, by rw [own_slots, r]; simp [List.map_set]⟩
theorem OAL.new {cA : ClassId} {n : Int32} (A : Arr Z h a (newA cA ty n) ty) (q : defaultValue ty = .int 0) : OAL Z h a ty (List.replicate n.toNatClampNeg 0) := ⟨_, A, by
  show Array.replicate n.toNatClampNeg (defaultValue ty) = _
  rw [q]; simp⟩
theorem OAJ.new {cA : ClassId} {n : Int32} (A : Arr Z h a (newA cA .long n) .long) : OAJ Z h a (List.replicate n.toNatClampNeg 0) := ⟨_, A, by
  show Array.replicate n.toNatClampNeg (Value.long 0) = _
  simp⟩
theorem own_in {α : Type} {vs : List α} {f : α → Value} {j : Int32} {v : α} {cl : Cell} (r : cl.slots = (vs.map f).toArray) (q : OAt vs j v) : ¬ (j < 0 ∨ cl.slots.size ≤ j.toNatClampNeg) ∧ cl.slots[j.toNatClampNeg]? = some (f v) := by
  obtain ⟨q1, q2⟩ := q
  have hl := (List.getElem?_eq_some_iff.mp q2).1
  rw [r]
  refine ⟨fun z => z.elim q1 fun y => ?_, ?_⟩
  · simp at y; omega
  · simp [q2]
theorem OAL.baB (X : Stand p l e R s m args below meth c T locs cells slots) (hx : p.tables.exec = Jvm.exec) (hZ : Z.Warmed39 s.vm) (eT : T.heap = h) (A : OAL Z h a .byte vs) {j v : Int32} (q : OAt vs j v) {pc : Nat} {Ls : Array Slot} {rest : List Value} (hd : decode c.code pc = .ok (.baload, 1)) {t : State}
    (k : Steps p.tables e below (T.setTop (mkF m (pc + 1) Ls (.int v :: rest))) t) : Steps p.tables e below (T.setTop (mkF m pc Ls (.int j :: .ref a :: rest))) t := by
  obtain ⟨cl, A, r⟩ := A
  exact X.baloadBytes hx (j := j) (v := .int v) (by rw [eT]; exact A.1) (State.isArrayOf_alike hZ.alike A.2.1) A.2.2 (own_in r q).1 (own_in r q).2 (g := mkF m pc Ls (.int j :: .ref a :: rest)) rfl rfl hd _ k
theorem OAL.baZ (X : Stand p l e R s m args below meth c T locs cells slots) (hx : p.tables.exec = Jvm.exec) (hZ : Z.Warmed39 s.vm) (eT : T.heap = h) (A : OAL Z h a .boolean vs) {j v : Int32} (q : OAt vs j v) {pc : Nat} {Ls : Array Slot} {rest : List Value} (hd : decode c.code pc = .ok (.baload, 1)) {t : State}
    (k : Steps p.tables e below (T.setTop (mkF m (pc + 1) Ls (.int v :: rest))) t) : Steps p.tables e below (T.setTop (mkF m pc Ls (.int j :: .ref a :: rest))) t := by
  obtain ⟨cl, A, r⟩ := A
  exact X.baloadBooleans hx (j := j) (v := .int v) (by rw [eT]; exact A.1) (State.isArrayOf_alike hZ.alike A.2.1) A.2.2 (own_in r q).1 (own_in r q).2 (g := mkF m pc Ls (.int j :: .ref a :: rest)) rfl rfl hd _ k
theorem OAL.ia (X : Stand p l e R s m args below meth c T locs cells slots) (hx : p.tables.exec = Jvm.exec) (hZ : Z.Warmed39 s.vm) (eT : T.heap = h) (A : OAL Z h a .int vs) {j v : Int32} (q : OAt vs j v) {pc : Nat} {Ls : Array Slot} {rest : List Value} (hd : decode c.code pc = .ok (.iaload, 1)) {t : State}
    (k : Steps p.tables e below (T.setTop (mkF m (pc + 1) Ls (.int v :: rest))) t) : Steps p.tables e below (T.setTop (mkF m pc Ls (.int j :: .ref a :: rest))) t := by
  obtain ⟨cl, A, r⟩ := A
  exact X.iaload hx (j := j) (v := .int v) (by rw [eT]; exact A.1) (State.isArrayOf_alike hZ.alike A.2.1) A.2.2 (own_in r q).1 (own_in r q).2 (g := mkF m pc Ls (.int j :: .ref a :: rest)) rfl rfl hd _ k
theorem OAJ.la (X : Stand p l e R s m args below meth c T locs cells slots) (hx : p.tables.exec = Jvm.exec) (hZ : Z.Warmed39 s.vm) (eT : T.heap = h) (A : OAJ Z h a us) {j : Int32} {v : Int64} (q : OAt us j v) {pc : Nat} {Ls : Array Slot} {rest : List Value} (hd : decode c.code pc = .ok (.laload, 1)) {t : State}
    (k : Steps p.tables e below (T.setTop (mkF m (pc + 1) Ls (.long v :: rest))) t) : Steps p.tables e below (T.setTop (mkF m pc Ls (.int j :: .ref a :: rest))) t := by
  obtain ⟨cl, A, r⟩ := A
  exact X.laload hx (j := j) (v := .long v) (by rw [eT]; exact A.1) (State.isArrayOf_alike hZ.alike A.2.1) A.2.2 (own_in r q).1 (own_in r q).2 (g := mkF m pc Ls (.int j :: .ref a :: rest)) rfl rfl hd _ k
theorem OAL.len (X : Stand p l e R s m args below meth c T locs cells slots) (hx : p.tables.exec = Jvm.exec) (hZ : Z.Warmed39 s.vm) (eT : T.heap = h) (A : OAL Z h a ty vs) {n : Int32} (q : vs.length.toInt32 = n) {pc : Nat} {Ls : Array Slot} {rest : List Value} (hd : decode c.code pc = .ok (.arraylength, 1)) {t : State}
    (k : Steps p.tables e below (T.setTop (mkF m (pc + 1) Ls (.int n :: rest))) t) : Steps p.tables e below (T.setTop (mkF m pc Ls (.ref a :: rest))) t := by
  obtain ⟨cl, A, r⟩ := A
  have z : cl.slots.size = vs.length := by rw [r]; simp
  exact X.arraylength hx (by rw [eT]; exact A.1) (State.isArrayOf_alike hZ.alike A.2.1) (g := mkF m pc Ls (.ref a :: rest)) rfl rfl hd _ (by rw [z, q]; exact k)
theorem OAJ.len (X : Stand p l e R s m args below meth c T locs cells slots) (hx : p.tables.exec = Jvm.exec) (hZ : Z.Warmed39 s.vm) (eT : T.heap = h) (A : OAJ Z h a us) {n : Int32} (q : us.length.toInt32 = n) {pc : Nat} {Ls : Array Slot} {rest : List Value} (hd : decode c.code pc = .ok (.arraylength, 1)) {t : State}
    (k : Steps p.tables e below (T.setTop (mkF m (pc + 1) Ls (.int n :: rest))) t) : Steps p.tables e below (T.setTop (mkF m pc Ls (.ref a :: rest))) t := by
  obtain ⟨cl, A, r⟩ := A
  have z : cl.slots.size = us.length := by rw [r]; simp
  exact X.arraylength hx (by rw [eT]; exact A.1) (State.isArrayOf_alike hZ.alike A.2.1) (g := mkF m pc Ls (.ref a :: rest)) rfl rfl hd _ (by rw [z, q]; exact k)
theorem own_into {α : Type} {vs : List α} {f : α → Value} {j : Int32} {cl : Cell} (r : cl.slots = (vs.map f).toArray) (q1 : ¬ j < 0) (q2 : j.toNatClampNeg < vs.length) : ¬ (j < 0 ∨ cl.slots.size ≤ j.toNatClampNeg) := by
  rw [r]
  exact fun z => z.elim q1 fun y => by simp at y; omega
theorem OAL.stB (X : Stand p l e R s m args below meth c T locs cells slots) (hx : p.tables.exec = Jvm.exec) (hZ : Z.Warmed39 s.vm) (eT : T.heap = h) (A : OAL Z h a .byte vs) {j x : Int32} (q1 : ¬ j < 0) (q2 : j.toNatClampNeg < vs.length) {pc : Nat} {Ls : Array Slot} {rest : List Value} (hd : decode c.code pc = .ok (.bastore, 1)) :
    ∃ T' h', Stand p l e R s m args below meth c T' (locs ++ [⟨a, j.toNatClampNeg⟩]) cells slots ∧ T'.heap = h' ∧ Wr h h' a j.toNatClampNeg (.int (nar .byte x)) ∧ OAL Z h' a .byte (vs.set j.toNatClampNeg (nar .byte x)) ∧ ∀ t, Steps p.tables e below (T'.setTop (mkF m (pc + 1) Ls rest)) t → Steps p.tables e below (T.setTop (mkF m pc Ls (.int x :: .int j :: .ref a :: rest))) t := by
  obtain ⟨cl, A', r⟩ := A
  obtain ⟨T', h', X', e', W', st⟩ := Jvm.RoadKit.stB X hx hZ eT A' (j := j) (x := x) (own_into r q1 q2) (g := mkF m pc Ls (.int x :: .int j :: .ref a :: rest)) rfl rfl hd
  exact ⟨T', h', X', e', W', OAL.same ⟨cl, A', r⟩ W', st⟩
theorem OAL.stZ (X : Stand p l e R s m args below meth c T locs cells slots) (hx : p.tables.exec = Jvm.exec) (hZ : Z.Warmed39 s.vm) (eT : T.heap = h) (A : OAL Z h a .boolean vs) {j x : Int32} (q1 : ¬ j < 0) (q2 : j.toNatClampNeg < vs.length) {pc : Nat} {Ls : Array Slot} {rest : List Value} (hd : decode c.code pc = .ok (.bastore, 1)) :
    ∃ T' h', Stand p l e R s m args below meth c T' (locs ++ [⟨a, j.toNatClampNeg⟩]) cells slots ∧ T'.heap = h' ∧ Wr h h' a j.toNatClampNeg (.int (nar .boolean x)) ∧ OAL Z h' a .boolean (vs.set j.toNatClampNeg (nar .boolean x)) ∧ ∀ t, Steps p.tables e below (T'.setTop (mkF m (pc + 1) Ls rest)) t → Steps p.tables e below (T.setTop (mkF m pc Ls (.int x :: .int j :: .ref a :: rest))) t := by
  obtain ⟨cl, A', r⟩ := A
  obtain ⟨T', h', X', e', W', st⟩ := Jvm.RoadKit.stZ X hx hZ eT A' (j := j) (x := x) (own_into r q1 q2) (g := mkF m pc Ls (.int x :: .int j :: .ref a :: rest)) rfl rfl hd
  exact ⟨T', h', X', e', W', OAL.same ⟨cl, A', r⟩ W', st⟩
theorem OAL.stI (X : Stand p l e R s m args below meth c T locs cells slots) (hx : p.tables.exec = Jvm.exec) (hZ : Z.Warmed39 s.vm) (eT : T.heap = h) (A : OAL Z h a .int vs) {j x : Int32} (q1 : ¬ j < 0) (q2 : j.toNatClampNeg < vs.length) {pc : Nat} {Ls : Array Slot} {rest : List Value} (hd : decode c.code pc = .ok (.iastore, 1)) :
    ∃ T' h', Stand p l e R s m args below meth c T' (locs ++ [⟨a, j.toNatClampNeg⟩]) cells slots ∧ T'.heap = h' ∧ Wr h h' a j.toNatClampNeg (.int x) ∧ OAL Z h' a .int (vs.set j.toNatClampNeg x) ∧ ∀ t, Steps p.tables e below (T'.setTop (mkF m (pc + 1) Ls rest)) t → Steps p.tables e below (T.setTop (mkF m pc Ls (.int x :: .int j :: .ref a :: rest))) t := by
  obtain ⟨cl, A', r⟩ := A
  obtain ⟨T', h', X', e', W', st⟩ := Jvm.RoadKit.stI X hx hZ eT A' (j := j) (x := x) (own_into r q1 q2) (g := mkF m pc Ls (.int x :: .int j :: .ref a :: rest)) rfl rfl hd
  exact ⟨T', h', X', e', W', OAL.same ⟨cl, A', r⟩ W', st⟩
theorem OAJ.stJ (X : Stand p l e R s m args below meth c T locs cells slots) (hx : p.tables.exec = Jvm.exec) (hZ : Z.Warmed39 s.vm) (eT : T.heap = h) (A : OAJ Z h a us) {j : Int32} {x : Int64} (q1 : ¬ j < 0) (q2 : j.toNatClampNeg < us.length) {pc : Nat} {Ls : Array Slot} {rest : List Value} (hd : decode c.code pc = .ok (.lastore, 1)) :
    ∃ T' h', Stand p l e R s m args below meth c T' (locs ++ [⟨a, j.toNatClampNeg⟩]) cells slots ∧ T'.heap = h' ∧ Wr h h' a j.toNatClampNeg (.long x) ∧ OAJ Z h' a (us.set j.toNatClampNeg x) ∧ ∀ t, Steps p.tables e below (T'.setTop (mkF m (pc + 1) Ls rest)) t → Steps p.tables e below (T.setTop (mkF m pc Ls (.long x :: .int j :: .ref a :: rest))) t := by
  obtain ⟨cl, A', r⟩ := A
  obtain ⟨T', h', X', e', W', st⟩ := Jvm.RoadKit.stJ X hx hZ eT A' (j := j) (x := x) (own_into r q1 q2) (g := mkF m pc Ls (.long x :: .int j :: .ref a :: rest)) rfl rfl hd
  exact ⟨T', h', X', e', W', OAJ.same ⟨cl, A', r⟩ W', st⟩
end Own
end Jvm.RoadKit
namespace Jvm.Pilot.@@N@@
open Jvm Jvm.ClassFile Sem Op Lib Jvm.Free Jvm.Stand Jvm.LawKit Jvm.RoadKit Bundle Jvm.Pilot.@@N@@.Jvm.D
def own_tcs (s e sc ec : Int32) : Int32 := (if s = e then 1 else 2) + ((if sc = -2147483648 then 0 else 1) + (if ec = -2147483648 then 0 else 1))
theorem own_pn0 : plainName "java/lang/Record" = true := by first | (simp [plainName, overriddenIn]; done) | decide +kernel
theorem own_pd0 : parseMethodDescriptor "()V" = some ⟨[], none⟩ := by decide +kernel
theorem ef_own_rec (m : MethodId) (x0 : Addr) : entryFrame m #[(.ref x0)] 1 = mkF m 0 #[.val (.ref x0)] [] := by first | (simp [entryFrame, mkF, argsToLocals, Value.category]; done) | rfl
theorem d2_0 : decode jdk_30_method_1_code 0 = .ok (.aload_n 0, 1) := by decide +kernel
theorem d2_1 : decode jdk_30_method_1_code 1 = .ok (.invokespecial 1, 3) := by decide +kernel
theorem d2_4 : decode jdk_30_method_1_code 4 = .ok (.return_, 1) := by decide +kernel
set_option maxRecDepth 65536 in
set_option maxHeartbeats 40000000 in
theorem own_rec (l : Launch) (Z : State) (a0 : Array Value) (hw : ∀ d ∈ tables_1, d.before a0 Z = true) (ws : List Jvm.Cond) (ra : Addr) (h0 : Heap) (n0 : Nat) (Z0 : n0 ≤ h0.size)  :
    MetFree l (⟨"java/lang/Record", "<init>", "()V"⟩ : MethodName) (head1 (Jvm.Cond.code (⟨"java/lang/Record", "<init>", "()V"⟩ : MethodName) jdk_30_method_1_code 1 none :: ws) ({ frames := 1, cells := 0, slots := 0, locals := 12 } : Room)) (fun a U => a = #[(.ref ra)] ∧ Z.Warmed39 U.vm ∧ U.heap = h0) (fun _ _ _ _ _ => True) (fun _ U o U' => ∃ v L, o = .returned v ∧ (OPure n0 h0 none) v U'.heap L ∧ FrameEnd U o U' L ({ frames := 1, cells := 0, slots := 0, locals := 12 } : Room).cells ({ frames := 1, cells := 0, slots := 0, locals := 12 } : Room).slots) := by
  refine MetFree.of_bodySF (plainFor_of_name own_pn0) hisR ?_
  intro p e s m args below meth c s₁ Bd hml0 hP hK
  obtain ⟨rfl, hZ, hh⟩ := hP
  have hx := Bd.exec
  have hby := Bd.bytes
  have hret := Bd.returns
  have hlk : meth.locks = false := Bd.notSynchronized
  have hml : c.maxLocals = 1 := hml0
  have hown : s.vm.findClass "java/lang/Record" = some m.cls := findClass_of_methodNamed Bd.named
  have hnm := (name_of_methodNamed Bd.named Bd.method).1
  have X0 : Stand p l e ({ frames := 1, cells := 0, slots := 0, locals := 12 } : Room) s m #[(.ref ra)] below meth c s₁ [] 0 0 := Stand.of_body Bd
  have e0 : s₁.heap = h0 := by rw [← hh, Bd.state]; rfl
  have N0 := Fr.nil n0
  have pre0 : ∀ t, Steps p.tables e below (s₁.setTop (mkF m 0 #[.val (.ref ra)] [])) t → Steps p.tables e below (s₁.setTop (entryFrame m #[(.ref ra)] 1)) t := fun t k => castTop (ef_own_rec m ra) k
  show OGo p e below s (OPure n0 h0 none) ({ frames := 1, cells := 0, slots := 0, locals := 12 } : Room).cells ({ frames := 1, cells := 0, slots := 0, locals := 12 } : Room).slots (s₁.setTop (entryFrame m #[(.ref ra)] 1))
  refine OGo.on pre0 ?_
  show OGo p e below s _ _ _ (s₁.setTop (mkF m 0 #[.val (.ref ra)] []))
  refine OGo.on (fun t k => XS.aloadN X0.here hx rfl (hb hby d2_0) rfl rfl k) ?_
  show OGo p e below s _ _ _ (s₁.setTop (mkF m 1 #[.val (.ref ra)] [(.ref ra)]))
  obtain ⟨T1, X1, e1, st1⟩ := initO X0 hx hZ hown (hw _ (List.mem_of_getElem? (i := 11) rfl)) (hw _ (List.mem_of_getElem? (i := 12) rfl)) (hw _ (List.mem_of_getElem? (i := 13) rfl)) e0 (g := (mkF m 1 #[.val (.ref ra)] [(.ref ra)])) rfl (by rw [hml]; rfl) rfl (hb hby d2_1) (by decide) (W := 0) (by show 2 * 0 + _ ≤ _; exact Nat.le_of_eq rfl) (by decide)
  refine OGo.on st1 ?_
  show OGo p e below s _ _ _ (T1.setTop (mkF m 4 #[.val (.ref ra)] []))
  exact OGo.ret0 X1 hx hret hlk (hb hby d2_4) ⟨rfl, N0, e1⟩ (by decide) (by decide)
def Q_own_minit (Z : State) (ra : Addr) (va vb vc vd vs ve : Int32) (h0 : Heap) (n0 : Nat) (v : Option Value) (h : Heap) (L : List Loc) : Prop := v = none ∧ Fr n0 L ∧ Keep h0 h [ra] ∧ Fld Z h ra "com/example/metrilog/metrilog/TemporalMapping" "startColumn" "I" (.int va) ∧ Fld Z h ra "com/example/metrilog/metrilog/TemporalMapping" "endColumn" "I" (.int vb) ∧ Fld Z h ra "com/example/metrilog/metrilog/TemporalMapping" "startClosedColumn" "I" (.int vc) ∧ Fld Z h ra "com/example/metrilog/metrilog/TemporalMapping" "endClosedColumn" "I" (.int vd) ∧ Fld Z h ra "com/example/metrilog/metrilog/TemporalMapping" "startClosed" "Z" (.int (nar .boolean vs)) ∧ Fld Z h ra "com/example/metrilog/metrilog/TemporalMapping" "endClosed" "Z" (.int (nar .boolean ve))
theorem own_pn1 : plainName "com/example/metrilog/metrilog/TemporalMapping" = true := by first | (simp [plainName, overriddenIn]; done) | decide +kernel
theorem ef_own_minit (m : MethodId) (x0 : Addr) (x1 : Int32) (x2 : Int32) (x3 : Int32) (x4 : Int32) (x5 : Int32) (x6 : Int32) : entryFrame m #[(.ref x0), (.int x1), (.int x2), (.int x3), (.int x4), (.int x5), (.int x6)] 7 = mkF m 0 #[.val (.ref x0), .val (.int x1), .val (.int x2), .val (.int x3), .val (.int x4), .val (.int x5), .val (.int x6)] [] := by first | (simp [entryFrame, mkF, argsToLocals, Value.category]; done) | rfl
theorem d1_0 : decode prog_94_method_1_code 0 = .ok (.aload_n 0, 1) := by decide +kernel
theorem d1_1 : decode prog_94_method_1_code 1 = .ok (.invokespecial 3, 3) := by decide +kernel
theorem d1_4 : decode prog_94_method_1_code 4 = .ok (.aload_n 0, 1) := by decide +kernel
theorem d1_5 : decode prog_94_method_1_code 5 = .ok (.iload_n 1, 1) := by decide +kernel
theorem d1_6 : decode prog_94_method_1_code 6 = .ok (.putfield 9, 3) := by decide +kernel
theorem d1_9 : decode prog_94_method_1_code 9 = .ok (.aload_n 0, 1) := by decide +kernel
theorem d1_10 : decode prog_94_method_1_code 10 = .ok (.iload_n 2, 1) := by decide +kernel
theorem d1_11 : decode prog_94_method_1_code 11 = .ok (.putfield 15, 3) := by decide +kernel
theorem d1_14 : decode prog_94_method_1_code 14 = .ok (.aload_n 0, 1) := by decide +kernel
theorem d1_15 : decode prog_94_method_1_code 15 = .ok (.iload_n 3, 1) := by decide +kernel
theorem d1_16 : decode prog_94_method_1_code 16 = .ok (.putfield 18, 3) := by decide +kernel
theorem d1_19 : decode prog_94_method_1_code 19 = .ok (.aload_n 0, 1) := by decide +kernel
theorem d1_20 : decode prog_94_method_1_code 20 = .ok (.iload 4, 2) := by decide +kernel
theorem d1_22 : decode prog_94_method_1_code 22 = .ok (.putfield 21, 3) := by decide +kernel
theorem d1_25 : decode prog_94_method_1_code 25 = .ok (.aload_n 0, 1) := by decide +kernel
theorem d1_26 : decode prog_94_method_1_code 26 = .ok (.iload 5, 2) := by decide +kernel
theorem d1_28 : decode prog_94_method_1_code 28 = .ok (.putfield 24, 3) := by decide +kernel
theorem d1_31 : decode prog_94_method_1_code 31 = .ok (.aload_n 0, 1) := by decide +kernel
theorem d1_32 : decode prog_94_method_1_code 32 = .ok (.iload 6, 2) := by decide +kernel
theorem d1_34 : decode prog_94_method_1_code 34 = .ok (.putfield 28, 3) := by decide +kernel
theorem d1_37 : decode prog_94_method_1_code 37 = .ok (.return_, 1) := by decide +kernel
set_option maxRecDepth 65536 in
set_option maxHeartbeats 40000000 in
theorem own_minit (l : Launch) (Z : State) (a0 : Array Value) (hw : ∀ d ∈ tables_1, d.before a0 Z = true) (ws : List Jvm.Cond) (ra : Addr) (va vb vc vd vs ve : Int32) (h0 : Heap) (n0 : Nat) (Z0 : n0 ≤ h0.size) (g_ra : n0 ≤ ra) (E_ra : Exa Z h0 ra "com/example/metrilog/metrilog/TemporalMapping") (F_startColumn_ra : Fld Z h0 ra "com/example/metrilog/metrilog/TemporalMapping" "startColumn" "I" (.int (0 : Int32))) (F_endColumn_ra : Fld Z h0 ra "com/example/metrilog/metrilog/TemporalMapping" "endColumn" "I" (.int (0 : Int32))) (F_startClosedColumn_ra : Fld Z h0 ra "com/example/metrilog/metrilog/TemporalMapping" "startClosedColumn" "I" (.int (0 : Int32))) (F_endClosedColumn_ra : Fld Z h0 ra "com/example/metrilog/metrilog/TemporalMapping" "endClosedColumn" "I" (.int (0 : Int32))) (F_startClosed_ra : Fld Z h0 ra "com/example/metrilog/metrilog/TemporalMapping" "startClosed" "Z" (.int (0 : Int32))) (F_endClosed_ra : Fld Z h0 ra "com/example/metrilog/metrilog/TemporalMapping" "endClosed" "Z" (.int (0 : Int32)))  :
    MetFree l (⟨"com/example/metrilog/metrilog/TemporalMapping", "<init>", "(IIIIZZ)V"⟩ : MethodName) (head1 (Jvm.Cond.code (⟨"com/example/metrilog/metrilog/TemporalMapping", "<init>", "(IIIIZZ)V"⟩ : MethodName) prog_94_method_1_code 7 none :: ws) ({ frames := 2, cells := 0, slots := 0, locals := 24 } : Room)) (fun a U => a = #[(.ref ra), (.int va), (.int vb), (.int vc), (.int vd), (.int vs), (.int ve)] ∧ Z.Warmed39 U.vm ∧ U.heap = h0) (fun _ _ _ _ _ => True) (fun _ U o U' => ∃ v L, o = .returned v ∧ (Q_own_minit Z ra va vb vc vd vs ve h0 n0) v U'.heap L ∧ FrameEnd U o U' L ({ frames := 2, cells := 0, slots := 0, locals := 24 } : Room).cells ({ frames := 2, cells := 0, slots := 0, locals := 24 } : Room).slots) := by
  refine MetFree.of_bodySF (plainFor_of_name own_pn1) hisR ?_
  intro p e s m args below meth c s₁ Bd hml0 hP hK
  obtain ⟨rfl, hZ, hh⟩ := hP
  have hx := Bd.exec
  have hby := Bd.bytes
  have hret := Bd.returns
  have hlk : meth.locks = false := Bd.notSynchronized
  have hml : c.maxLocals = 7 := hml0
  have hown : s.vm.findClass "com/example/metrilog/metrilog/TemporalMapping" = some m.cls := findClass_of_methodNamed Bd.named
  have hnm := (name_of_methodNamed Bd.named Bd.method).1
  have X0 : Stand p l e ({ frames := 2, cells := 0, slots := 0, locals := 24 } : Room) s m #[(.ref ra), (.int va), (.int vb), (.int vc), (.int vd), (.int vs), (.int ve)] below meth c s₁ [] 0 0 := Stand.of_body Bd
  have e0 : s₁.heap = h0 := by rw [← hh, Bd.state]; rfl
  have N0 := Fr.nil n0
  have pre0 : ∀ t, Steps p.tables e below (s₁.setTop (mkF m 0 #[.val (.ref ra), .val (.int va), .val (.int vb), .val (.int vc), .val (.int vd), .val (.int vs), .val (.int ve)] [])) t → Steps p.tables e below (s₁.setTop (entryFrame m #[(.ref ra), (.int va), (.int vb), (.int vc), (.int vd), (.int vs), (.int ve)] 7)) t := fun t k => castTop (ef_own_minit m ra va vb vc vd vs ve) k
  have K0 : Keep h0 h0 [ra] := Keep.refl _ _
  show OGo p e below s (Q_own_minit Z ra va vb vc vd vs ve h0 n0) ({ frames := 2, cells := 0, slots := 0, locals := 24 } : Room).cells ({ frames := 2, cells := 0, slots := 0, locals := 24 } : Room).slots (s₁.setTop (entryFrame m #[(.ref ra), (.int va), (.int vb), (.int vc), (.int vd), (.int vs), (.int ve)] 7))
  refine OGo.on pre0 ?_
  show OGo p e below s _ _ _ (s₁.setTop (mkF m 0 #[.val (.ref ra), .val (.int va), .val (.int vb), .val (.int vc), .val (.int vd), .val (.int vs), .val (.int ve)] []))
  refine OGo.on (fun t k => XS.aloadN X0.here hx rfl (hb hby d1_0) rfl rfl k) ?_
  show OGo p e below s _ _ _ (s₁.setTop (mkF m 1 #[.val (.ref ra), .val (.int va), .val (.int vb), .val (.int vc), .val (.int vd), .val (.int vs), .val (.int ve)] [(.ref ra)]))
  obtain ⟨_, _, ⟨T2, L2, k2, n2⟩, -, X2, ⟨Lc2, hQ2, l2, y2, z2⟩, st2⟩ := X0.specialBack hx (y := (⟨"java/lang/Record", "<init>", "()V"⟩ : MethodName)) rfl hown (mvT hZ (hw _ (List.mem_of_getElem? (i := 6) rfl))) (mvT hZ (hw _ (List.mem_of_getElem? (i := 7) rfl))) (mvT hZ (hw _ (List.mem_of_getElem? (i := 10) rfl))) (by decide) (backOf (W := 0) (own_rec l Z a0 hw [] ra h0 n0 Z0) hZ (hw _ (List.mem_of_getElem? (i := 10) rfl)) (hw _ (List.mem_of_getElem? (i := 9) rfl)) (by decide) (by decide)) (g := (mkF m 1 #[.val (.ref ra), .val (.int va), .val (.int vb), .val (.int vc), .val (.int vd), .val (.int vs), .val (.int ve)] [(.ref ra)])) rfl (by rw [hml]; rfl) (Steps.refl _) (a := ra) (argsL := []) (rest := []) (lenOf own_pd0 rfl) rfl (by show 2 * 0 + _ ≤ _; exact Nat.le_of_eq rfl) (hb hby d1_1) (fun _ _ => ⟨rfl, e0, (by decide : 0 + 0 ≤ _), (by decide : 0 + 0 ≤ _)⟩)
  dsimp only [Pt.U, Pt.locs, Pt.cells, Pt.slots] at X2 l2 y2 z2 st2 hQ2
  subst l2 y2 z2
  obtain ⟨rfl, N2q, e2⟩ := hQ2
  have N2 := Fr.app N0 N2q
  refine OGo.on (fun t k => st2.trans k) ?_
  show OGo p e below s _ _ _ (T2.setTop (mkF m 4 #[.val (.ref ra), .val (.int va), .val (.int vb), .val (.int vc), .val (.int vd), .val (.int vs), .val (.int ve)] []))
  refine OGo.on (fun t k => XS.aloadN X2.here hx rfl (hb hby d1_4) rfl rfl k) ?_
  show OGo p e below s _ _ _ (T2.setTop (mkF m 5 #[.val (.ref ra), .val (.int va), .val (.int vb), .val (.int vc), .val (.int vd), .val (.int vs), .val (.int ve)] [(.ref ra)]))
  refine OGo.on (fun t k => XS.iloadN X2.here hx rfl (hb hby d1_5) rfl k) ?_
  show OGo p e below s _ _ _ (T2.setTop (mkF m 6 #[.val (.ref ra), .val (.int va), .val (.int vb), .val (.int vc), .val (.int vd), .val (.int vs), .val (.int ve)] [(.int va), (.ref ra)]))
  obtain ⟨T3, h3, X3, e3, W3, st3⟩ := putF X2 hx hZ hown (host := "") (Or.inl (hw _ (List.mem_of_getElem? (i := 14) rfl))) Via.refl e2 F_startColumn_ra E_ra (Or.inr ⟨(hw _ (List.mem_of_getElem? (i := 15) rfl)), rfl, hnm⟩) (hw _ (List.mem_of_getElem? (i := 1) rfl)) (ty := .int) (by decide) rfl rfl (g := (mkF m 6 #[.val (.ref ra), .val (.int va), .val (.int vb), .val (.int vc), .val (.int vd), .val (.int vs), .val (.int ve)] [(.int va), (.ref ra)])) rfl rfl (hb hby d1_6)
  have f4 : Exa Z h3 ra "com/example/metrilog/metrilog/TemporalMapping" := E_ra.wr W3
  have f5 : Fld Z h3 ra "com/example/metrilog/metrilog/TemporalMapping" "endColumn" "I" (.int (0 : Int32)) := F_endColumn_ra.other W3 (Or.inr (slot_ne (Or.inr (hw _ (List.mem_of_getElem? (i := 17) rfl))) (Or.inr (hw _ (List.mem_of_getElem? (i := 15) rfl))) (by decide) (t := .int) (t' := .int) (by decide) (by decide)))
  have f6 : Fld Z h3 ra "com/example/metrilog/metrilog/TemporalMapping" "startClosedColumn" "I" (.int (0 : Int32)) := F_startClosedColumn_ra.other W3 (Or.inr (slot_ne (Or.inr (hw _ (List.mem_of_getElem? (i := 19) rfl))) (Or.inr (hw _ (List.mem_of_getElem? (i := 15) rfl))) (by decide) (t := .int) (t' := .int) (by decide) (by decide)))
  have f7 : Fld Z h3 ra "com/example/metrilog/metrilog/TemporalMapping" "endClosedColumn" "I" (.int (0 : Int32)) := F_endClosedColumn_ra.other W3 (Or.inr (slot_ne (Or.inr (hw _ (List.mem_of_getElem? (i := 21) rfl))) (Or.inr (hw _ (List.mem_of_getElem? (i := 15) rfl))) (by decide) (t := .int) (t' := .int) (by decide) (by decide)))
  have f8 : Fld Z h3 ra "com/example/metrilog/metrilog/TemporalMapping" "startClosed" "Z" (.int (0 : Int32)) := F_startClosed_ra.other W3 (Or.inr (slot_ne (Or.inr (hw _ (List.mem_of_getElem? (i := 23) rfl))) (Or.inr (hw _ (List.mem_of_getElem? (i := 15) rfl))) (by decide) (t := .boolean) (t' := .int) (by decide) (by decide)))
  have f9 : Fld Z h3 ra "com/example/metrilog/metrilog/TemporalMapping" "endClosed" "Z" (.int (0 : Int32)) := F_endClosed_ra.other W3 (Or.inr (slot_ne (Or.inr (hw _ (List.mem_of_getElem? (i := 25) rfl))) (Or.inr (hw _ (List.mem_of_getElem? (i := 15) rfl))) (by decide) (t := .boolean) (t' := .int) (by decide) (by decide)))
  have Z10 : n0 ≤ h3.size := Nat.le_trans Z0 (Nat.le_of_eq W3.size.symm)
  have N11 := Fr.snoc X3 N2 g_ra
  have K12 : Keep h0 h3 [ra] := K0.wr W3 (Or.inl (List.mem_of_getElem? (i := 0) rfl))
  have f13 : Fld Z h3 ra "com/example/metrilog/metrilog/TemporalMapping" "startColumn" "I" (.int va) := F_startColumn_ra.same W3
  refine OGo.on st3 ?_
  show OGo p e below s _ _ _ (T3.setTop (mkF m 9 #[.val (.ref ra), .val (.int va), .val (.int vb), .val (.int vc), .val (.int vd), .val (.int vs), .val (.int ve)] []))
  refine OGo.on (fun t k => XS.aloadN X3.here hx rfl (hb hby d1_9) rfl rfl k) ?_
  show OGo p e below s _ _ _ (T3.setTop (mkF m 10 #[.val (.ref ra), .val (.int va), .val (.int vb), .val (.int vc), .val (.int vd), .val (.int vs), .val (.int ve)] [(.ref ra)]))
  refine OGo.on (fun t k => XS.iloadN X3.here hx rfl (hb hby d1_10) rfl k) ?_
  show OGo p e below s _ _ _ (T3.setTop (mkF m 11 #[.val (.ref ra), .val (.int va), .val (.int vb), .val (.int vc), .val (.int vd), .val (.int vs), .val (.int ve)] [(.int vb), (.ref ra)]))
  obtain ⟨T14, h14, X14, e14, W14, st14⟩ := putF X3 hx hZ hown (host := "") (Or.inl (hw _ (List.mem_of_getElem? (i := 16) rfl))) Via.refl e3 f5 f4 (Or.inr ⟨(hw _ (List.mem_of_getElem? (i := 17) rfl)), rfl, hnm⟩) (hw _ (List.mem_of_getElem? (i := 1) rfl)) (ty := .int) (by decide) rfl rfl (g := (mkF m 11 #[.val (.ref ra), .val (.int va), .val (.int vb), .val (.int vc), .val (.int vd), .val (.int vs), .val (.int ve)] [(.int vb), (.ref ra)])) rfl rfl (hb hby d1_11)
  have f15 : Exa Z h14 ra "com/example/metrilog/metrilog/TemporalMapping" := f4.wr W14
  have f16 : Fld Z h14 ra "com/example/metrilog/metrilog/TemporalMapping" "startColumn" "I" (.int va) := f13.other W14 (Or.inr (slot_ne (Or.inr (hw _ (List.mem_of_getElem? (i := 15) rfl))) (Or.inr (hw _ (List.mem_of_getElem? (i := 17) rfl))) (by decide) (t := .int) (t' := .int) (by decide) (by decide)))
  have f17 : Fld Z h14 ra "com/example/metrilog/metrilog/TemporalMapping" "startClosedColumn" "I" (.int (0 : Int32)) := f6.other W14 (Or.inr (slot_ne (Or.inr (hw _ (List.mem_of_getElem? (i := 19) rfl))) (Or.inr (hw _ (List.mem_of_getElem? (i := 17) rfl))) (by decide) (t := .int) (t' := .int) (by decide) (by decide)))
  have f18 : Fld Z h14 ra "com/example/metrilog/metrilog/TemporalMapping" "endClosedColumn" "I" (.int (0 : Int32)) := f7.other W14 (Or.inr (slot_ne (Or.inr (hw _ (List.mem_of_getElem? (i := 21) rfl))) (Or.inr (hw _ (List.mem_of_getElem? (i := 17) rfl))) (by decide) (t := .int) (t' := .int) (by decide) (by decide)))
  have f19 : Fld Z h14 ra "com/example/metrilog/metrilog/TemporalMapping" "startClosed" "Z" (.int (0 : Int32)) := f8.other W14 (Or.inr (slot_ne (Or.inr (hw _ (List.mem_of_getElem? (i := 23) rfl))) (Or.inr (hw _ (List.mem_of_getElem? (i := 17) rfl))) (by decide) (t := .boolean) (t' := .int) (by decide) (by decide)))
  have f20 : Fld Z h14 ra "com/example/metrilog/metrilog/TemporalMapping" "endClosed" "Z" (.int (0 : Int32)) := f9.other W14 (Or.inr (slot_ne (Or.inr (hw _ (List.mem_of_getElem? (i := 25) rfl))) (Or.inr (hw _ (List.mem_of_getElem? (i := 17) rfl))) (by decide) (t := .boolean) (t' := .int) (by decide) (by decide)))
  have Z21 : n0 ≤ h14.size := Nat.le_trans Z10 (Nat.le_of_eq W14.size.symm)
  have N22 := Fr.snoc X14 N11 g_ra
  have K23 : Keep h0 h14 [ra] := K12.wr W14 (Or.inl (List.mem_of_getElem? (i := 0) rfl))
  have f24 : Fld Z h14 ra "com/example/metrilog/metrilog/TemporalMapping" "endColumn" "I" (.int vb) := f5.same W14
  refine OGo.on st14 ?_
  show OGo p e below s _ _ _ (T14.setTop (mkF m 14 #[.val (.ref ra), .val (.int va), .val (.int vb), .val (.int vc), .val (.int vd), .val (.int vs), .val (.int ve)] []))
  refine OGo.on (fun t k => XS.aloadN X14.here hx rfl (hb hby d1_14) rfl rfl k) ?_
  show OGo p e below s _ _ _ (T14.setTop (mkF m 15 #[.val (.ref ra), .val (.int va), .val (.int vb), .val (.int vc), .val (.int vd), .val (.int vs), .val (.int ve)] [(.ref ra)]))
  refine OGo.on (fun t k => XS.iloadN X14.here hx rfl (hb hby d1_15) rfl k) ?_
  show OGo p e below s _ _ _ (T14.setTop (mkF m 16 #[.val (.ref ra), .val (.int va), .val (.int vb), .val (.int vc), .val (.int vd), .val (.int vs), .val (.int ve)] [(.int vc), (.ref ra)]))
  obtain ⟨T25, h25, X25, e25, W25, st25⟩ := putF X14 hx hZ hown (host := "") (Or.inl (hw _ (List.mem_of_getElem? (i := 18) rfl))) Via.refl e14 f17 f15 (Or.inr ⟨(hw _ (List.mem_of_getElem? (i := 19) rfl)), rfl, hnm⟩) (hw _ (List.mem_of_getElem? (i := 1) rfl)) (ty := .int) (by decide) rfl rfl (g := (mkF m 16 #[.val (.ref ra), .val (.int va), .val (.int vb), .val (.int vc), .val (.int vd), .val (.int vs), .val (.int ve)] [(.int vc), (.ref ra)])) rfl rfl (hb hby d1_16)
  have f26 : Exa Z h25 ra "com/example/metrilog/metrilog/TemporalMapping" := f15.wr W25
  have f27 : Fld Z h25 ra "com/example/metrilog/metrilog/TemporalMapping" "startColumn" "I" (.int va) := f16.other W25 (Or.inr (slot_ne (Or.inr (hw _ (List.mem_of_getElem? (i := 15) rfl))) (Or.inr (hw _ (List.mem_of_getElem? (i := 19) rfl))) (by decide) (t := .int) (t' := .int) (by decide) (by decide)))
  have f28 : Fld Z h25 ra "com/example/metrilog/metrilog/TemporalMapping" "endColumn" "I" (.int vb) := f24.other W25 (Or.inr (slot_ne (Or.inr (hw _ (List.mem_of_getElem? (i := 17) rfl))) (Or.inr (hw _ (List.mem_of_getElem? (i := 19) rfl))) (by decide) (t := .int) (t' := .int) (by decide) (by decide)))
  have f29 : Fld Z h25 ra "com/example/metrilog/metrilog/TemporalMapping" "endClosedColumn" "I" (.int (0 : Int32)) := f18.other W25 (Or.inr (slot_ne (Or.inr (hw _ (List.mem_of_getElem? (i := 21) rfl))) (Or.inr (hw _ (List.mem_of_getElem? (i := 19) rfl))) (by decide) (t := .int) (t' := .int) (by decide) (by decide)))
  have f30 : Fld Z h25 ra "com/example/metrilog/metrilog/TemporalMapping" "startClosed" "Z" (.int (0 : Int32)) := f19.other W25 (Or.inr (slot_ne (Or.inr (hw _ (List.mem_of_getElem? (i := 23) rfl))) (Or.inr (hw _ (List.mem_of_getElem? (i := 19) rfl))) (by decide) (t := .boolean) (t' := .int) (by decide) (by decide)))
  have f31 : Fld Z h25 ra "com/example/metrilog/metrilog/TemporalMapping" "endClosed" "Z" (.int (0 : Int32)) := f20.other W25 (Or.inr (slot_ne (Or.inr (hw _ (List.mem_of_getElem? (i := 25) rfl))) (Or.inr (hw _ (List.mem_of_getElem? (i := 19) rfl))) (by decide) (t := .boolean) (t' := .int) (by decide) (by decide)))
  have Z32 : n0 ≤ h25.size := Nat.le_trans Z21 (Nat.le_of_eq W25.size.symm)
  have N33 := Fr.snoc X25 N22 g_ra
  have K34 : Keep h0 h25 [ra] := K23.wr W25 (Or.inl (List.mem_of_getElem? (i := 0) rfl))
  have f35 : Fld Z h25 ra "com/example/metrilog/metrilog/TemporalMapping" "startClosedColumn" "I" (.int vc) := f17.same W25
  refine OGo.on st25 ?_
  show OGo p e below s _ _ _ (T25.setTop (mkF m 19 #[.val (.ref ra), .val (.int va), .val (.int vb), .val (.int vc), .val (.int vd), .val (.int vs), .val (.int ve)] []))
  refine OGo.on (fun t k => XS.aloadN X25.here hx rfl (hb hby d1_19) rfl rfl k) ?_
  show OGo p e below s _ _ _ (T25.setTop (mkF m 20 #[.val (.ref ra), .val (.int va), .val (.int vb), .val (.int vc), .val (.int vd), .val (.int vs), .val (.int ve)] [(.ref ra)]))
  refine OGo.on (fun t k => XS.iload X25.here hx rfl (hb hby d1_20) rfl k) ?_
  show OGo p e below s _ _ _ (T25.setTop (mkF m 22 #[.val (.ref ra), .val (.int va), .val (.int vb), .val (.int vc), .val (.int vd), .val (.int vs), .val (.int ve)] [(.int vd), (.ref ra)]))
  obtain ⟨T36, h36, X36, e36, W36, st36⟩ := putF X25 hx hZ hown (host := "") (Or.inl (hw _ (List.mem_of_getElem? (i := 20) rfl))) Via.refl e25 f29 f26 (Or.inr ⟨(hw _ (List.mem_of_getElem? (i := 21) rfl)), rfl, hnm⟩) (hw _ (List.mem_of_getElem? (i := 1) rfl)) (ty := .int) (by decide) rfl rfl (g := (mkF m 22 #[.val (.ref ra), .val (.int va), .val (.int vb), .val (.int vc), .val (.int vd), .val (.int vs), .val (.int ve)] [(.int vd), (.ref ra)])) rfl rfl (hb hby d1_22)
  have f37 : Exa Z h36 ra "com/example/metrilog/metrilog/TemporalMapping" := f26.wr W36
  have f38 : Fld Z h36 ra "com/example/metrilog/metrilog/TemporalMapping" "startColumn" "I" (.int va) := f27.other W36 (Or.inr (slot_ne (Or.inr (hw _ (List.mem_of_getElem? (i := 15) rfl))) (Or.inr (hw _ (List.mem_of_getElem? (i := 21) rfl))) (by decide) (t := .int) (t' := .int) (by decide) (by decide)))
  have f39 : Fld Z h36 ra "com/example/metrilog/metrilog/TemporalMapping" "endColumn" "I" (.int vb) := f28.other W36 (Or.inr (slot_ne (Or.inr (hw _ (List.mem_of_getElem? (i := 17) rfl))) (Or.inr (hw _ (List.mem_of_getElem? (i := 21) rfl))) (by decide) (t := .int) (t' := .int) (by decide) (by decide)))
  have f40 : Fld Z h36 ra "com/example/metrilog/metrilog/TemporalMapping" "startClosedColumn" "I" (.int vc) := f35.other W36 (Or.inr (slot_ne (Or.inr (hw _ (List.mem_of_getElem? (i := 19) rfl))) (Or.inr (hw _ (List.mem_of_getElem? (i := 21) rfl))) (by decide) (t := .int) (t' := .int) (by decide) (by decide)))
  have f41 : Fld Z h36 ra "com/example/metrilog/metrilog/TemporalMapping" "startClosed" "Z" (.int (0 : Int32)) := f30.other W36 (Or.inr (slot_ne (Or.inr (hw _ (List.mem_of_getElem? (i := 23) rfl))) (Or.inr (hw _ (List.mem_of_getElem? (i := 21) rfl))) (by decide) (t := .boolean) (t' := .int) (by decide) (by decide)))
  have f42 : Fld Z h36 ra "com/example/metrilog/metrilog/TemporalMapping" "endClosed" "Z" (.int (0 : Int32)) := f31.other W36 (Or.inr (slot_ne (Or.inr (hw _ (List.mem_of_getElem? (i := 25) rfl))) (Or.inr (hw _ (List.mem_of_getElem? (i := 21) rfl))) (by decide) (t := .boolean) (t' := .int) (by decide) (by decide)))
  have Z43 : n0 ≤ h36.size := Nat.le_trans Z32 (Nat.le_of_eq W36.size.symm)
  have N44 := Fr.snoc X36 N33 g_ra
  have K45 : Keep h0 h36 [ra] := K34.wr W36 (Or.inl (List.mem_of_getElem? (i := 0) rfl))
  have f46 : Fld Z h36 ra "com/example/metrilog/metrilog/TemporalMapping" "endClosedColumn" "I" (.int vd) := f29.same W36
  refine OGo.on st36 ?_
  show OGo p e below s _ _ _ (T36.setTop (mkF m 25 #[.val (.ref ra), .val (.int va), .val (.int vb), .val (.int vc), .val (.int vd), .val (.int vs), .val (.int ve)] []))
  refine OGo.on (fun t k => XS.aloadN X36.here hx rfl (hb hby d1_25) rfl rfl k) ?_
  show OGo p e below s _ _ _ (T36.setTop (mkF m 26 #[.val (.ref ra), .val (.int va), .val (.int vb), .val (.int vc), .val (.int vd), .val (.int vs), .val (.int ve)] [(.ref ra)]))
  refine OGo.on (fun t k => XS.iload X36.here hx rfl (hb hby d1_26) rfl k) ?_
  show OGo p e below s _ _ _ (T36.setTop (mkF m 28 #[.val (.ref ra), .val (.int va), .val (.int vb), .val (.int vc), .val (.int vd), .val (.int vs), .val (.int ve)] [(.int vs), (.ref ra)]))
  obtain ⟨T47, h47, X47, e47, W47, st47⟩ := putFN X36 hx hZ hown (hw _ (List.mem_of_getElem? (i := 22) rfl)) Via.refl e36 f41 f37 (Or.inr ⟨(hw _ (List.mem_of_getElem? (i := 23) rfl)), rfl, hnm⟩) (hw _ (List.mem_of_getElem? (i := 1) rfl)) (ty := .boolean) (v' := (.int (nar .boolean vs))) (by decide) rfl (fits_nar_bool _) (g := (mkF m 28 #[.val (.ref ra), .val (.int va), .val (.int vb), .val (.int vc), .val (.int vd), .val (.int vs), .val (.int ve)] [(.int vs), (.ref ra)])) rfl rfl (hb hby d1_28)
  have f48 : Exa Z h47 ra "com/example/metrilog/metrilog/TemporalMapping" := f37.wr W47
  have f49 : Fld Z h47 ra "com/example/metrilog/metrilog/TemporalMapping" "startColumn" "I" (.int va) := f38.other W47 (Or.inr (slot_ne (Or.inr (hw _ (List.mem_of_getElem? (i := 15) rfl))) (Or.inr (hw _ (List.mem_of_getElem? (i := 23) rfl))) (by decide) (t := .int) (t' := .boolean) (by decide) (by decide)))
  have f50 : Fld Z h47 ra "com/example/metrilog/metrilog/TemporalMapping" "endColumn" "I" (.int vb) := f39.other W47 (Or.inr (slot_ne (Or.inr (hw _ (List.mem_of_getElem? (i := 17) rfl))) (Or.inr (hw _ (List.mem_of_getElem? (i := 23) rfl))) (by decide) (t := .int) (t' := .boolean) (by decide) (by decide)))
  have f51 : Fld Z h47 ra "com/example/metrilog/metrilog/TemporalMapping" "startClosedColumn" "I" (.int vc) := f40.other W47 (Or.inr (slot_ne (Or.inr (hw _ (List.mem_of_getElem? (i := 19) rfl))) (Or.inr (hw _ (List.mem_of_getElem? (i := 23) rfl))) (by decide) (t := .int) (t' := .boolean) (by decide) (by decide)))
  have f52 : Fld Z h47 ra "com/example/metrilog/metrilog/TemporalMapping" "endClosedColumn" "I" (.int vd) := f46.other W47 (Or.inr (slot_ne (Or.inr (hw _ (List.mem_of_getElem? (i := 21) rfl))) (Or.inr (hw _ (List.mem_of_getElem? (i := 23) rfl))) (by decide) (t := .int) (t' := .boolean) (by decide) (by decide)))
  have f53 : Fld Z h47 ra "com/example/metrilog/metrilog/TemporalMapping" "endClosed" "Z" (.int (0 : Int32)) := f42.other W47 (Or.inr (slot_ne (Or.inr (hw _ (List.mem_of_getElem? (i := 25) rfl))) (Or.inr (hw _ (List.mem_of_getElem? (i := 23) rfl))) (by decide) (t := .boolean) (t' := .boolean) (by decide) (by decide)))
  have Z54 : n0 ≤ h47.size := Nat.le_trans Z43 (Nat.le_of_eq W47.size.symm)
  have N55 := Fr.snoc X47 N44 g_ra
  have K56 : Keep h0 h47 [ra] := K45.wr W47 (Or.inl (List.mem_of_getElem? (i := 0) rfl))
  have f57 : Fld Z h47 ra "com/example/metrilog/metrilog/TemporalMapping" "startClosed" "Z" (.int (nar .boolean vs)) := f41.same W47
  refine OGo.on st47 ?_
  show OGo p e below s _ _ _ (T47.setTop (mkF m 31 #[.val (.ref ra), .val (.int va), .val (.int vb), .val (.int vc), .val (.int vd), .val (.int vs), .val (.int ve)] []))
  refine OGo.on (fun t k => XS.aloadN X47.here hx rfl (hb hby d1_31) rfl rfl k) ?_
  show OGo p e below s _ _ _ (T47.setTop (mkF m 32 #[.val (.ref ra), .val (.int va), .val (.int vb), .val (.int vc), .val (.int vd), .val (.int vs), .val (.int ve)] [(.ref ra)]))
  refine OGo.on (fun t k => XS.iload X47.here hx rfl (hb hby d1_32) rfl k) ?_
  show OGo p e below s _ _ _ (T47.setTop (mkF m 34 #[.val (.ref ra), .val (.int va), .val (.int vb), .val (.int vc), .val (.int vd), .val (.int vs), .val (.int ve)] [(.int ve), (.ref ra)]))
  obtain ⟨T58, h58, X58, e58, W58, st58⟩ := putFN X47 hx hZ hown (hw _ (List.mem_of_getElem? (i := 24) rfl)) Via.refl e47 f53 f48 (Or.inr ⟨(hw _ (List.mem_of_getElem? (i := 25) rfl)), rfl, hnm⟩) (hw _ (List.mem_of_getElem? (i := 1) rfl)) (ty := .boolean) (v' := (.int (nar .boolean ve))) (by decide) rfl (fits_nar_bool _) (g := (mkF m 34 #[.val (.ref ra), .val (.int va), .val (.int vb), .val (.int vc), .val (.int vd), .val (.int vs), .val (.int ve)] [(.int ve), (.ref ra)])) rfl rfl (hb hby d1_34)
  have f59 : Exa Z h58 ra "com/example/metrilog/metrilog/TemporalMapping" := f48.wr W58
  have f60 : Fld Z h58 ra "com/example/metrilog/metrilog/TemporalMapping" "startColumn" "I" (.int va) := f49.other W58 (Or.inr (slot_ne (Or.inr (hw _ (List.mem_of_getElem? (i := 15) rfl))) (Or.inr (hw _ (List.mem_of_getElem? (i := 25) rfl))) (by decide) (t := .int) (t' := .boolean) (by decide) (by decide)))
  have f61 : Fld Z h58 ra "com/example/metrilog/metrilog/TemporalMapping" "endColumn" "I" (.int vb) := f50.other W58 (Or.inr (slot_ne (Or.inr (hw _ (List.mem_of_getElem? (i := 17) rfl))) (Or.inr (hw _ (List.mem_of_getElem? (i := 25) rfl))) (by decide) (t := .int) (t' := .boolean) (by decide) (by decide)))
  have f62 : Fld Z h58 ra "com/example/metrilog/metrilog/TemporalMapping" "startClosedColumn" "I" (.int vc) := f51.other W58 (Or.inr (slot_ne (Or.inr (hw _ (List.mem_of_getElem? (i := 19) rfl))) (Or.inr (hw _ (List.mem_of_getElem? (i := 25) rfl))) (by decide) (t := .int) (t' := .boolean) (by decide) (by decide)))
  have f63 : Fld Z h58 ra "com/example/metrilog/metrilog/TemporalMapping" "endClosedColumn" "I" (.int vd) := f52.other W58 (Or.inr (slot_ne (Or.inr (hw _ (List.mem_of_getElem? (i := 21) rfl))) (Or.inr (hw _ (List.mem_of_getElem? (i := 25) rfl))) (by decide) (t := .int) (t' := .boolean) (by decide) (by decide)))
  have f64 : Fld Z h58 ra "com/example/metrilog/metrilog/TemporalMapping" "startClosed" "Z" (.int (nar .boolean vs)) := f57.other W58 (Or.inr (slot_ne (Or.inr (hw _ (List.mem_of_getElem? (i := 23) rfl))) (Or.inr (hw _ (List.mem_of_getElem? (i := 25) rfl))) (by decide) (t := .boolean) (t' := .boolean) (by decide) (by decide)))
  have Z65 : n0 ≤ h58.size := Nat.le_trans Z54 (Nat.le_of_eq W58.size.symm)
  have N66 := Fr.snoc X58 N55 g_ra
  have K67 : Keep h0 h58 [ra] := K56.wr W58 (Or.inl (List.mem_of_getElem? (i := 0) rfl))
  have f68 : Fld Z h58 ra "com/example/metrilog/metrilog/TemporalMapping" "endClosed" "Z" (.int (nar .boolean ve)) := f53.same W58
  refine OGo.on st58 ?_
  show OGo p e below s _ _ _ (T58.setTop (mkF m 37 #[.val (.ref ra), .val (.int va), .val (.int vb), .val (.int vc), .val (.int vd), .val (.int vs), .val (.int ve)] []))
  exact OGo.ret0 X58 hx hret hlk (hb hby d1_37) ⟨rfl, N66, by rw [e58]; exact K67, by rw [e58]; exact f60, by rw [e58]; exact f61, by rw [e58]; exact f62, by rw [e58]; exact f63, by rw [e58]; exact f64, by rw [e58]; exact f68⟩ (by decide) (by decide)
def Q_own_mtc (Z : State) (ra : Addr) (va vb vc vd : Int32) (h0 : Heap) (n0 : Nat) (v : Option Value) (h : Heap) (L : List Loc) : Prop := v = some (.int (own_tcs va vb vc vd)) ∧ Fr n0 L ∧ Keep h0 h []
theorem ef_own_mtc (m : MethodId) (x0 : Addr) : entryFrame m #[(.ref x0)] 7 = mkF m 0 #[.val (.ref x0), .unset, .unset, .unset, .unset, .unset, .unset] [] := by first | (simp [entryFrame, mkF, argsToLocals, Value.category]; done) | rfl
theorem d4_0 : decode prog_94_method_3_code 0 = .ok (.aload_n 0, 1) := by decide +kernel
theorem d4_1 : decode prog_94_method_3_code 1 = .ok (.getfield 9, 3) := by decide +kernel
theorem d4_4 : decode prog_94_method_3_code 4 = .ok (.aload_n 0, 1) := by decide +kernel
theorem d4_5 : decode prog_94_method_3_code 5 = .ok (.getfield 15, 3) := by decide +kernel
theorem d4_8 : decode prog_94_method_3_code 8 = .ok (.if_icmp .ne 7, 3) := by decide +kernel
theorem d4_11 : decode prog_94_method_3_code 11 = .ok (.iconst 1, 1) := by decide +kernel
theorem d4_12 : decode prog_94_method_3_code 12 = .ok (.goto 4, 3) := by decide +kernel
theorem d4_15 : decode prog_94_method_3_code 15 = .ok (.iconst 2, 1) := by decide +kernel
theorem d4_16 : decode prog_94_method_3_code 16 = .ok (.istore_n 1, 1) := by decide +kernel
theorem d4_17 : decode prog_94_method_3_code 17 = .ok (.iconst 0, 1) := by decide +kernel
theorem d4_18 : decode prog_94_method_3_code 18 = .ok (.istore_n 2, 1) := by decide +kernel
theorem d4_19 : decode prog_94_method_3_code 19 = .ok (.iconst 2, 1) := by decide +kernel
theorem d4_20 : decode prog_94_method_3_code 20 = .ok (.newarray .int, 2) := by decide +kernel
theorem d4_22 : decode prog_94_method_3_code 22 = .ok (.dup, 1) := by decide +kernel
theorem d4_23 : decode prog_94_method_3_code 23 = .ok (.iconst 0, 1) := by decide +kernel
theorem d4_24 : decode prog_94_method_3_code 24 = .ok (.aload_n 0, 1) := by decide +kernel
theorem d4_25 : decode prog_94_method_3_code 25 = .ok (.getfield 18, 3) := by decide +kernel
theorem d4_28 : decode prog_94_method_3_code 28 = .ok (.iastore, 1) := by decide +kernel
theorem d4_29 : decode prog_94_method_3_code 29 = .ok (.dup, 1) := by decide +kernel
theorem d4_30 : decode prog_94_method_3_code 30 = .ok (.iconst 1, 1) := by decide +kernel
theorem d4_31 : decode prog_94_method_3_code 31 = .ok (.aload_n 0, 1) := by decide +kernel
theorem d4_32 : decode prog_94_method_3_code 32 = .ok (.getfield 21, 3) := by decide +kernel
theorem d4_35 : decode prog_94_method_3_code 35 = .ok (.iastore, 1) := by decide +kernel
theorem d4_36 : decode prog_94_method_3_code 36 = .ok (.astore_n 3, 1) := by decide +kernel
theorem d4_37 : decode prog_94_method_3_code 37 = .ok (.aload_n 3, 1) := by decide +kernel
theorem d4_38 : decode prog_94_method_3_code 38 = .ok (.arraylength, 1) := by decide +kernel
theorem d4_39 : decode prog_94_method_3_code 39 = .ok (.istore 4, 2) := by decide +kernel
theorem d4_41 : decode prog_94_method_3_code 41 = .ok (.iconst 0, 1) := by decide +kernel
theorem d4_42 : decode prog_94_method_3_code 42 = .ok (.istore 5, 2) := by decide +kernel
theorem d4_44 : decode prog_94_method_3_code 44 = .ok (.iload 5, 2) := by decide +kernel
theorem d4_46 : decode prog_94_method_3_code 46 = .ok (.iload 4, 2) := by decide +kernel
theorem d4_48 : decode prog_94_method_3_code 48 = .ok (.if_icmp .ge 25, 3) := by decide +kernel
theorem d4_51 : decode prog_94_method_3_code 51 = .ok (.aload_n 3, 1) := by decide +kernel
theorem d4_52 : decode prog_94_method_3_code 52 = .ok (.iload 5, 2) := by decide +kernel
theorem d4_54 : decode prog_94_method_3_code 54 = .ok (.iaload, 1) := by decide +kernel
theorem d4_55 : decode prog_94_method_3_code 55 = .ok (.istore 6, 2) := by decide +kernel
theorem d4_57 : decode prog_94_method_3_code 57 = .ok (.iload 6, 2) := by decide +kernel
theorem d4_59 : decode prog_94_method_3_code 59 = .ok (.ldc 31, 2) := by decide +kernel
theorem d4_61 : decode prog_94_method_3_code 61 = .ok (.if_icmp .eq 6, 3) := by decide +kernel
theorem d4_64 : decode prog_94_method_3_code 64 = .ok (.iinc 2 1, 3) := by decide +kernel
theorem d4_67 : decode prog_94_method_3_code 67 = .ok (.iinc 5 1, 3) := by decide +kernel
theorem d4_70 : decode prog_94_method_3_code 70 = .ok (.goto (-26), 3) := by decide +kernel
theorem d4_73 : decode prog_94_method_3_code 73 = .ok (.iload_n 1, 1) := by decide +kernel
theorem d4_74 : decode prog_94_method_3_code 74 = .ok (.iload_n 2, 1) := by decide +kernel
theorem d4_75 : decode prog_94_method_3_code 75 = .ok (.iadd, 1) := by decide +kernel
theorem d4_76 : decode prog_94_method_3_code 76 = .ok (.ireturn, 1) := by decide +kernel
set_option maxRecDepth 65536 in
set_option maxHeartbeats 40000000 in
theorem own_mtc (l : Launch) (Z : State) (a0 : Array Value) (hw : ∀ d ∈ tables_1, d.before a0 Z = true) (ws : List Jvm.Cond) (ra : Addr) (va vb vc vd : Int32) (h0 : Heap) (n0 : Nat) (Z0 : n0 ≤ h0.size) (F_startColumn_ra : Fld Z h0 ra "com/example/metrilog/metrilog/TemporalMapping" "startColumn" "I" (.int va)) (F_endColumn_ra : Fld Z h0 ra "com/example/metrilog/metrilog/TemporalMapping" "endColumn" "I" (.int vb)) (F_startClosedColumn_ra : Fld Z h0 ra "com/example/metrilog/metrilog/TemporalMapping" "startClosedColumn" "I" (.int vc)) (F_endClosedColumn_ra : Fld Z h0 ra "com/example/metrilog/metrilog/TemporalMapping" "endClosedColumn" "I" (.int vd))  :
    MetFree l (⟨"com/example/metrilog/metrilog/TemporalMapping", "timeColumns", "()I"⟩ : MethodName) (head1 (Jvm.Cond.code (⟨"com/example/metrilog/metrilog/TemporalMapping", "timeColumns", "()I"⟩ : MethodName) prog_94_method_3_code 7 (some .int) :: ws) ({ frames := 0, cells := 1, slots := 2, locals := 0 } : Room)) (fun a U => a = #[(.ref ra)] ∧ Z.Warmed39 U.vm ∧ U.heap = h0) (fun _ _ _ _ _ => True) (fun _ U o U' => ∃ v L, o = .returned v ∧ (Q_own_mtc Z ra va vb vc vd h0 n0) v U'.heap L ∧ FrameEnd U o U' L ({ frames := 0, cells := 1, slots := 2, locals := 0 } : Room).cells ({ frames := 0, cells := 1, slots := 2, locals := 0 } : Room).slots) := by
  refine MetFree.of_bodySF (plainFor_of_name own_pn1) hisR ?_
  intro p e s m args below meth c s₁ Bd hml0 hP hK
  obtain ⟨rfl, hZ, hh⟩ := hP
  have hx := Bd.exec
  have hby := Bd.bytes
  have hret := Bd.returns
  have hlk : meth.locks = false := Bd.notSynchronized
  have hml : c.maxLocals = 7 := hml0
  have hown : s.vm.findClass "com/example/metrilog/metrilog/TemporalMapping" = some m.cls := findClass_of_methodNamed Bd.named
  have hnm := (name_of_methodNamed Bd.named Bd.method).1
  have X0 : Stand p l e ({ frames := 0, cells := 1, slots := 2, locals := 0 } : Room) s m #[(.ref ra)] below meth c s₁ [] 0 0 := Stand.of_body Bd
  have e0 : s₁.heap = h0 := by rw [← hh, Bd.state]; rfl
  have N0 := Fr.nil n0
  have pre0 : ∀ t, Steps p.tables e below (s₁.setTop (mkF m 0 #[.val (.ref ra), .unset, .unset, .unset, .unset, .unset, .unset] [])) t → Steps p.tables e below (s₁.setTop (entryFrame m #[(.ref ra)] 7)) t := fun t k => castTop (ef_own_mtc m ra) k
  have K0 : Keep h0 h0 [] := Keep.refl _ _
  show OGo p e below s (Q_own_mtc Z ra va vb vc vd h0 n0) ({ frames := 0, cells := 1, slots := 2, locals := 0 } : Room).cells ({ frames := 0, cells := 1, slots := 2, locals := 0 } : Room).slots (s₁.setTop (entryFrame m #[(.ref ra)] 7))
  refine OGo.on pre0 ?_
  show OGo p e below s _ _ _ (s₁.setTop (mkF m 0 #[.val (.ref ra), .unset, .unset, .unset, .unset, .unset, .unset] []))
  refine OGo.on (fun t k => XS.aloadN X0.here hx rfl (hb hby d4_0) rfl rfl k) ?_
  show OGo p e below s _ _ _ (s₁.setTop (mkF m 1 #[.val (.ref ra), .unset, .unset, .unset, .unset, .unset, .unset] [(.ref ra)]))
  obtain ⟨T69, X69, e69, st69⟩ := getF X0 hx hZ hown (host := "") (Or.inl (hw _ (List.mem_of_getElem? (i := 14) rfl))) Via.refl e0 F_startColumn_ra (g := (mkF m 1 #[.val (.ref ra), .unset, .unset, .unset, .unset, .unset, .unset] [(.ref ra)])) rfl rfl (hb hby d4_1)
  refine OGo.on st69 ?_
  show OGo p e below s _ _ _ (T69.setTop (mkF m 4 #[.val (.ref ra), .unset, .unset, .unset, .unset, .unset, .unset] [(.int va)]))
  refine OGo.on (fun t k => XS.aloadN X69.here hx rfl (hb hby d4_4) rfl rfl k) ?_
  show OGo p e below s _ _ _ (T69.setTop (mkF m 5 #[.val (.ref ra), .unset, .unset, .unset, .unset, .unset, .unset] [(.ref ra), (.int va)]))
  obtain ⟨T70, X70, e70, st70⟩ := getF X69 hx hZ hown (host := "") (Or.inl (hw _ (List.mem_of_getElem? (i := 16) rfl))) Via.refl e69 F_endColumn_ra (g := (mkF m 5 #[.val (.ref ra), .unset, .unset, .unset, .unset, .unset, .unset] [(.ref ra), (.int va)])) rfl rfl (hb hby d4_5)
  refine OGo.on st70 ?_
  show OGo p e below s _ _ _ (T70.setTop (mkF m 8 #[.val (.ref ra), .unset, .unset, .unset, .unset, .unset, .unset] [(.int vb), (.int va)]))
  by_cases hc71 : va = vb
  · refine OGo.on (fun t k => XS.icmpNo X70.here hx rfl (hb hby d4_8) rfl (teq hc71).2 k) ?_
    show OGo p e below s _ _ _ (T70.setTop (mkF m 11 #[.val (.ref ra), .unset, .unset, .unset, .unset, .unset, .unset] []))
    refine OGo.on (fun t k => XS.iconst X70.here hx rfl (hb hby d4_11) k) ?_
    show OGo p e below s _ _ _ (T70.setTop (mkF m 12 #[.val (.ref ra), .unset, .unset, .unset, .unset, .unset, .unset] [(.int (1 : Int32))]))
    refine OGo.on (fun t k => XS.goto X70.here hx rfl (pc0 := 12) (pc' := 16) rfl (hb hby d4_12) (by decide) (by decide) k) ?_
    show OGo p e below s _ _ _ (T70.setTop (mkF m 16 #[.val (.ref ra), .unset, .unset, .unset, .unset, .unset, .unset] [(.int (1 : Int32))]))
    refine OGo.on (fun t k => XS.istoreN X70.here hx rfl (hb hby d4_16) rfl (l' := #[.val (.ref ra), .val (.int (1 : Int32)), .unset, .unset, .unset, .unset, .unset]) rfl k) ?_
    show OGo p e below s _ _ _ (T70.setTop (mkF m 17 #[.val (.ref ra), .val (.int (1 : Int32)), .unset, .unset, .unset, .unset, .unset] []))
    refine OGo.on (fun t k => XS.iconst X70.here hx rfl (hb hby d4_17) k) ?_
    show OGo p e below s _ _ _ (T70.setTop (mkF m 18 #[.val (.ref ra), .val (.int (1 : Int32)), .unset, .unset, .unset, .unset, .unset] [(.int (0 : Int32))]))
    refine OGo.on (fun t k => XS.istoreN X70.here hx rfl (hb hby d4_18) rfl (l' := #[.val (.ref ra), .val (.int (1 : Int32)), .val (.int (0 : Int32)), .unset, .unset, .unset, .unset]) rfl k) ?_
    show OGo p e below s _ _ _ (T70.setTop (mkF m 19 #[.val (.ref ra), .val (.int (1 : Int32)), .val (.int (0 : Int32)), .unset, .unset, .unset, .unset] []))
    refine OGo.on (fun t k => XS.iconst X70.here hx rfl (hb hby d4_19) k) ?_
    show OGo p e below s _ _ _ (T70.setTop (mkF m 20 #[.val (.ref ra), .val (.int (1 : Int32)), .val (.int (0 : Int32)), .unset, .unset, .unset, .unset] [(.int (2 : Int32))]))
    obtain ⟨T72, h72, k72, X72, e72, E72, A72, st72⟩ := newP X70 hx hZ (hw _ (List.mem_of_getElem? (i := 32) rfl)) e70 (g := (mkF m 20 #[.val (.ref ra), .val (.int (1 : Int32)), .val (.int (0 : Int32)), .unset, .unset, .unset, .unset] [(.int (2 : Int32))])) rfl (hb hby d4_20) rfl (by decide) (cap := 2) (by decide) (by decide) (by decide) (by decide)
    obtain ⟨b72, g72⟩ : ∃ z, z = h0.size := ⟨_, rfl⟩
    rw [← g72] at A72 st72
    have ne73 : ra ≠ b72 := Nat.ne_of_lt (Nat.lt_of_lt_of_le F_startColumn_ra.lt (Nat.le_of_eq g72.symm))
    have ge74 : n0 ≤ b72 := Nat.le_trans Z0 (Nat.le_of_eq g72.symm)
    have sz75 : h0.size ≤ b72 := Nat.le_trans K0.1 (Nat.le_of_eq g72.symm)
    have f76 : Fld Z h72 ra "com/example/metrilog/metrilog/TemporalMapping" "startColumn" "I" (.int va) := F_startColumn_ra.ext E72
    have f77 : Fld Z h72 ra "com/example/metrilog/metrilog/TemporalMapping" "endColumn" "I" (.int vb) := F_endColumn_ra.ext E72
    have f78 : Fld Z h72 ra "com/example/metrilog/metrilog/TemporalMapping" "startClosedColumn" "I" (.int vc) := F_startClosedColumn_ra.ext E72
    have f79 : Fld Z h72 ra "com/example/metrilog/metrilog/TemporalMapping" "endClosedColumn" "I" (.int vd) := F_endClosedColumn_ra.ext E72
    have Z80 : n0 ≤ h72.size := Nat.le_trans Z0 E72.1
    have K81 : Keep h0 h72 [] := K0.ext E72
    have V72 : OAL Z h72 b72 .int [(0 : Int32), (0 : Int32)] := OAL.new A72 rfl
    refine OGo.on st72 ?_
    show OGo p e below s _ _ _ (T72.setTop (mkF m 22 #[.val (.ref ra), .val (.int (1 : Int32)), .val (.int (0 : Int32)), .unset, .unset, .unset, .unset] [(.ref b72)]))
    refine OGo.on (fun t k => XS.dup X72.here hx rfl (hb hby d4_22) rfl rfl k) ?_
    show OGo p e below s _ _ _ (T72.setTop (mkF m 23 #[.val (.ref ra), .val (.int (1 : Int32)), .val (.int (0 : Int32)), .unset, .unset, .unset, .unset] [(.ref b72), (.ref b72)]))
    refine OGo.on (fun t k => XS.iconst X72.here hx rfl (hb hby d4_23) k) ?_
    show OGo p e below s _ _ _ (T72.setTop (mkF m 24 #[.val (.ref ra), .val (.int (1 : Int32)), .val (.int (0 : Int32)), .unset, .unset, .unset, .unset] [(.int (0 : Int32)), (.ref b72), (.ref b72)]))
    refine OGo.on (fun t k => XS.aloadN X72.here hx rfl (hb hby d4_24) rfl rfl k) ?_
    show OGo p e below s _ _ _ (T72.setTop (mkF m 25 #[.val (.ref ra), .val (.int (1 : Int32)), .val (.int (0 : Int32)), .unset, .unset, .unset, .unset] [(.ref ra), (.int (0 : Int32)), (.ref b72), (.ref b72)]))
    obtain ⟨T82, X82, e82, st82⟩ := getF X72 hx hZ hown (host := "") (Or.inl (hw _ (List.mem_of_getElem? (i := 18) rfl))) Via.refl e72 f78 (g := (mkF m 25 #[.val (.ref ra), .val (.int (1 : Int32)), .val (.int (0 : Int32)), .unset, .unset, .unset, .unset] [(.ref ra), (.int (0 : Int32)), (.ref b72), (.ref b72)])) rfl rfl (hb hby d4_25)
    refine OGo.on st82 ?_
    show OGo p e below s _ _ _ (T82.setTop (mkF m 28 #[.val (.ref ra), .val (.int (1 : Int32)), .val (.int (0 : Int32)), .unset, .unset, .unset, .unset] [(.int vc), (.int (0 : Int32)), (.ref b72), (.ref b72)]))
    obtain ⟨T83, h83, X83, e83, W83, A83, st83⟩ := OAL.stI X82 hx hZ e82 V72 (j := (0 : Int32)) (x := vc) (by decide) (by decide : 0 < 2) (Ls := #[.val (.ref ra), .val (.int (1 : Int32)), .val (.int (0 : Int32)), .unset, .unset, .unset, .unset]) (rest := [(.ref b72)]) (hb hby d4_28)
    have f84 : Fld Z h83 ra "com/example/metrilog/metrilog/TemporalMapping" "startColumn" "I" (.int va) := f76.other W83 (Or.inl ne73)
    have f85 : Fld Z h83 ra "com/example/metrilog/metrilog/TemporalMapping" "endColumn" "I" (.int vb) := f77.other W83 (Or.inl ne73)
    have f86 : Fld Z h83 ra "com/example/metrilog/metrilog/TemporalMapping" "startClosedColumn" "I" (.int vc) := f78.other W83 (Or.inl ne73)
    have f87 : Fld Z h83 ra "com/example/metrilog/metrilog/TemporalMapping" "endClosedColumn" "I" (.int vd) := f79.other W83 (Or.inl ne73)
    have Z88 : n0 ≤ h83.size := Nat.le_trans Z80 (Nat.le_of_eq W83.size.symm)
    have N89 := Fr.snoc X83 N0 ge74
    have K90 : Keep h0 h83 [] := K81.wr W83 (Or.inr sz75)
    have V83 : OAL Z h83 b72 .int [vc, (0 : Int32)] := A83
    refine OGo.on st83 ?_
    show OGo p e below s _ _ _ (T83.setTop (mkF m 29 #[.val (.ref ra), .val (.int (1 : Int32)), .val (.int (0 : Int32)), .unset, .unset, .unset, .unset] [(.ref b72)]))
    refine OGo.on (fun t k => XS.dup X83.here hx rfl (hb hby d4_29) rfl rfl k) ?_
    show OGo p e below s _ _ _ (T83.setTop (mkF m 30 #[.val (.ref ra), .val (.int (1 : Int32)), .val (.int (0 : Int32)), .unset, .unset, .unset, .unset] [(.ref b72), (.ref b72)]))
    refine OGo.on (fun t k => XS.iconst X83.here hx rfl (hb hby d4_30) k) ?_
    show OGo p e below s _ _ _ (T83.setTop (mkF m 31 #[.val (.ref ra), .val (.int (1 : Int32)), .val (.int (0 : Int32)), .unset, .unset, .unset, .unset] [(.int (1 : Int32)), (.ref b72), (.ref b72)]))
    refine OGo.on (fun t k => XS.aloadN X83.here hx rfl (hb hby d4_31) rfl rfl k) ?_
    show OGo p e below s _ _ _ (T83.setTop (mkF m 32 #[.val (.ref ra), .val (.int (1 : Int32)), .val (.int (0 : Int32)), .unset, .unset, .unset, .unset] [(.ref ra), (.int (1 : Int32)), (.ref b72), (.ref b72)]))
    obtain ⟨T91, X91, e91, st91⟩ := getF X83 hx hZ hown (host := "") (Or.inl (hw _ (List.mem_of_getElem? (i := 20) rfl))) Via.refl e83 f87 (g := (mkF m 32 #[.val (.ref ra), .val (.int (1 : Int32)), .val (.int (0 : Int32)), .unset, .unset, .unset, .unset] [(.ref ra), (.int (1 : Int32)), (.ref b72), (.ref b72)])) rfl rfl (hb hby d4_32)
    refine OGo.on st91 ?_
    show OGo p e below s _ _ _ (T91.setTop (mkF m 35 #[.val (.ref ra), .val (.int (1 : Int32)), .val (.int (0 : Int32)), .unset, .unset, .unset, .unset] [(.int vd), (.int (1 : Int32)), (.ref b72), (.ref b72)]))
    obtain ⟨T92, h92, X92, e92, W92, A92, st92⟩ := OAL.stI X91 hx hZ e91 V83 (j := (1 : Int32)) (x := vd) (by decide) (by decide : 1 < 2) (Ls := #[.val (.ref ra), .val (.int (1 : Int32)), .val (.int (0 : Int32)), .unset, .unset, .unset, .unset]) (rest := [(.ref b72)]) (hb hby d4_35)
    have f93 : Fld Z h92 ra "com/example/metrilog/metrilog/TemporalMapping" "startColumn" "I" (.int va) := f84.other W92 (Or.inl ne73)
    have f94 : Fld Z h92 ra "com/example/metrilog/metrilog/TemporalMapping" "endColumn" "I" (.int vb) := f85.other W92 (Or.inl ne73)
    have f95 : Fld Z h92 ra "com/example/metrilog/metrilog/TemporalMapping" "startClosedColumn" "I" (.int vc) := f86.other W92 (Or.inl ne73)
    have f96 : Fld Z h92 ra "com/example/metrilog/metrilog/TemporalMapping" "endClosedColumn" "I" (.int vd) := f87.other W92 (Or.inl ne73)
    have Z97 : n0 ≤ h92.size := Nat.le_trans Z88 (Nat.le_of_eq W92.size.symm)
    have N98 := Fr.snoc X92 N89 ge74
    have K99 : Keep h0 h92 [] := K90.wr W92 (Or.inr sz75)
    have V92 : OAL Z h92 b72 .int [vc, vd] := A92
    refine OGo.on st92 ?_
    show OGo p e below s _ _ _ (T92.setTop (mkF m 36 #[.val (.ref ra), .val (.int (1 : Int32)), .val (.int (0 : Int32)), .unset, .unset, .unset, .unset] [(.ref b72)]))
    refine OGo.on (fun t k => XS.astoreN X92.here hx rfl (hb hby d4_36) rfl rfl (l' := #[.val (.ref ra), .val (.int (1 : Int32)), .val (.int (0 : Int32)), .val (.ref b72), .unset, .unset, .unset]) rfl k) ?_
    show OGo p e below s _ _ _ (T92.setTop (mkF m 37 #[.val (.ref ra), .val (.int (1 : Int32)), .val (.int (0 : Int32)), .val (.ref b72), .unset, .unset, .unset] []))
    refine OGo.on (fun t k => XS.aloadN X92.here hx rfl (hb hby d4_37) rfl rfl k) ?_
    show OGo p e below s _ _ _ (T92.setTop (mkF m 38 #[.val (.ref ra), .val (.int (1 : Int32)), .val (.int (0 : Int32)), .val (.ref b72), .unset, .unset, .unset] [(.ref b72)]))
    refine OGo.on (fun t k => OAL.len X92 hx hZ e92 V92 rfl (hb hby d4_38) k) ?_
    show OGo p e below s _ _ _ (T92.setTop (mkF m 39 #[.val (.ref ra), .val (.int (1 : Int32)), .val (.int (0 : Int32)), .val (.ref b72), .unset, .unset, .unset] [(.int (2 : Int32))]))
    refine OGo.on (fun t k => XS.istore X92.here hx rfl (hb hby d4_39) rfl (l' := #[.val (.ref ra), .val (.int (1 : Int32)), .val (.int (0 : Int32)), .val (.ref b72), .val (.int (2 : Int32)), .unset, .unset]) rfl k) ?_
    show OGo p e below s _ _ _ (T92.setTop (mkF m 41 #[.val (.ref ra), .val (.int (1 : Int32)), .val (.int (0 : Int32)), .val (.ref b72), .val (.int (2 : Int32)), .unset, .unset] []))
    refine OGo.on (fun t k => XS.iconst X92.here hx rfl (hb hby d4_41) k) ?_
    show OGo p e below s _ _ _ (T92.setTop (mkF m 42 #[.val (.ref ra), .val (.int (1 : Int32)), .val (.int (0 : Int32)), .val (.ref b72), .val (.int (2 : Int32)), .unset, .unset] [(.int (0 : Int32))]))
    refine OGo.on (fun t k => XS.istore X92.here hx rfl (hb hby d4_42) rfl (l' := #[.val (.ref ra), .val (.int (1 : Int32)), .val (.int (0 : Int32)), .val (.ref b72), .val (.int (2 : Int32)), .val (.int (0 : Int32)), .unset]) rfl k) ?_
    show OGo p e below s _ _ _ (T92.setTop (mkF m 44 #[.val (.ref ra), .val (.int (1 : Int32)), .val (.int (0 : Int32)), .val (.ref b72), .val (.int (2 : Int32)), .val (.int (0 : Int32)), .unset] []))
    refine OGo.on (fun t k => XS.iload X92.here hx rfl (hb hby d4_44) rfl k) ?_
    show OGo p e below s _ _ _ (T92.setTop (mkF m 46 #[.val (.ref ra), .val (.int (1 : Int32)), .val (.int (0 : Int32)), .val (.ref b72), .val (.int (2 : Int32)), .val (.int (0 : Int32)), .unset] [(.int (0 : Int32))]))
    refine OGo.on (fun t k => XS.iload X92.here hx rfl (hb hby d4_46) rfl k) ?_
    show OGo p e below s _ _ _ (T92.setTop (mkF m 48 #[.val (.ref ra), .val (.int (1 : Int32)), .val (.int (0 : Int32)), .val (.ref b72), .val (.int (2 : Int32)), .val (.int (0 : Int32)), .unset] [(.int (2 : Int32)), (.int (0 : Int32))]))
    refine OGo.on (fun t k => XS.icmpNo X92.here hx rfl (hb hby d4_48) rfl (tlt (by decide)).2.1 k) ?_
    show OGo p e below s _ _ _ (T92.setTop (mkF m 51 #[.val (.ref ra), .val (.int (1 : Int32)), .val (.int (0 : Int32)), .val (.ref b72), .val (.int (2 : Int32)), .val (.int (0 : Int32)), .unset] []))
    refine OGo.on (fun t k => XS.aloadN X92.here hx rfl (hb hby d4_51) rfl rfl k) ?_
    show OGo p e below s _ _ _ (T92.setTop (mkF m 52 #[.val (.ref ra), .val (.int (1 : Int32)), .val (.int (0 : Int32)), .val (.ref b72), .val (.int (2 : Int32)), .val (.int (0 : Int32)), .unset] [(.ref b72)]))
    refine OGo.on (fun t k => XS.iload X92.here hx rfl (hb hby d4_52) rfl k) ?_
    show OGo p e below s _ _ _ (T92.setTop (mkF m 54 #[.val (.ref ra), .val (.int (1 : Int32)), .val (.int (0 : Int32)), .val (.ref b72), .val (.int (2 : Int32)), .val (.int (0 : Int32)), .unset] [(.int (0 : Int32)), (.ref b72)]))
    refine OGo.on (fun t k => OAL.ia X92 hx hZ e92 V92 ⟨by decide, rfl⟩ (hb hby d4_54) k) ?_
    show OGo p e below s _ _ _ (T92.setTop (mkF m 55 #[.val (.ref ra), .val (.int (1 : Int32)), .val (.int (0 : Int32)), .val (.ref b72), .val (.int (2 : Int32)), .val (.int (0 : Int32)), .unset] [(.int vc)]))
    refine OGo.on (fun t k => XS.istore X92.here hx rfl (hb hby d4_55) rfl (l' := #[.val (.ref ra), .val (.int (1 : Int32)), .val (.int (0 : Int32)), .val (.ref b72), .val (.int (2 : Int32)), .val (.int (0 : Int32)), .val (.int vc)]) rfl k) ?_
    show OGo p e below s _ _ _ (T92.setTop (mkF m 57 #[.val (.ref ra), .val (.int (1 : Int32)), .val (.int (0 : Int32)), .val (.ref b72), .val (.int (2 : Int32)), .val (.int (0 : Int32)), .val (.int vc)] []))
    refine OGo.on (fun t k => XS.iload X92.here hx rfl (hb hby d4_57) rfl k) ?_
    show OGo p e below s _ _ _ (T92.setTop (mkF m 59 #[.val (.ref ra), .val (.int (1 : Int32)), .val (.int (0 : Int32)), .val (.ref b72), .val (.int (2 : Int32)), .val (.int (0 : Int32)), .val (.int vc)] [(.int vc)]))
    refine OGo.on (fun t k => X92.ldcI hx hown (mvT hZ (hw _ (List.mem_of_getElem? (i := 33) rfl))) (g := (mkF m 59 #[.val (.ref ra), .val (.int (1 : Int32)), .val (.int (0 : Int32)), .val (.ref b72), .val (.int (2 : Int32)), .val (.int (0 : Int32)), .val (.int vc)] [(.int vc)])) rfl (hb hby d4_59) k) ?_
    show OGo p e below s _ _ _ (T92.setTop (mkF m 61 #[.val (.ref ra), .val (.int (1 : Int32)), .val (.int (0 : Int32)), .val (.ref b72), .val (.int (2 : Int32)), .val (.int (0 : Int32)), .val (.int vc)] [(.int (-2147483648 : Int32)), (.int vc)]))
    by_cases hc100 : vc = (-2147483648 : Int32)
    · refine OGo.on (fun t k => XS.icmpYes X92.here hx rfl (pc0 := 61) (pc' := 67) rfl (hb hby d4_61) rfl (teq hc100).1 (by decide) (by decide) k) ?_
      show OGo p e below s _ _ _ (T92.setTop (mkF m 67 #[.val (.ref ra), .val (.int (1 : Int32)), .val (.int (0 : Int32)), .val (.ref b72), .val (.int (2 : Int32)), .val (.int (0 : Int32)), .val (.int vc)] []))
      refine OGo.on (fun t k => XS.iinc X92.here hx rfl (hb hby d4_67) rfl (l' := #[.val (.ref ra), .val (.int (1 : Int32)), .val (.int (0 : Int32)), .val (.ref b72), .val (.int (2 : Int32)), .val (.int (1 : Int32)), .val (.int vc)]) rfl k) ?_
      show OGo p e below s _ _ _ (T92.setTop (mkF m 70 #[.val (.ref ra), .val (.int (1 : Int32)), .val (.int (0 : Int32)), .val (.ref b72), .val (.int (2 : Int32)), .val (.int (1 : Int32)), .val (.int vc)] []))
      refine OGo.on (fun t k => XS.goto X92.here hx rfl (pc0 := 70) (pc' := 44) rfl (hb hby d4_70) (by decide) (by decide) k) ?_
      show OGo p e below s _ _ _ (T92.setTop (mkF m 44 #[.val (.ref ra), .val (.int (1 : Int32)), .val (.int (0 : Int32)), .val (.ref b72), .val (.int (2 : Int32)), .val (.int (1 : Int32)), .val (.int vc)] []))
      refine OGo.on (fun t k => XS.iload X92.here hx rfl (hb hby d4_44) rfl k) ?_
      show OGo p e below s _ _ _ (T92.setTop (mkF m 46 #[.val (.ref ra), .val (.int (1 : Int32)), .val (.int (0 : Int32)), .val (.ref b72), .val (.int (2 : Int32)), .val (.int (1 : Int32)), .val (.int vc)] [(.int (1 : Int32))]))
      refine OGo.on (fun t k => XS.iload X92.here hx rfl (hb hby d4_46) rfl k) ?_
      show OGo p e below s _ _ _ (T92.setTop (mkF m 48 #[.val (.ref ra), .val (.int (1 : Int32)), .val (.int (0 : Int32)), .val (.ref b72), .val (.int (2 : Int32)), .val (.int (1 : Int32)), .val (.int vc)] [(.int (2 : Int32)), (.int (1 : Int32))]))
      refine OGo.on (fun t k => XS.icmpNo X92.here hx rfl (hb hby d4_48) rfl (tlt (by decide)).2.1 k) ?_
      show OGo p e below s _ _ _ (T92.setTop (mkF m 51 #[.val (.ref ra), .val (.int (1 : Int32)), .val (.int (0 : Int32)), .val (.ref b72), .val (.int (2 : Int32)), .val (.int (1 : Int32)), .val (.int vc)] []))
      refine OGo.on (fun t k => XS.aloadN X92.here hx rfl (hb hby d4_51) rfl rfl k) ?_
      show OGo p e below s _ _ _ (T92.setTop (mkF m 52 #[.val (.ref ra), .val (.int (1 : Int32)), .val (.int (0 : Int32)), .val (.ref b72), .val (.int (2 : Int32)), .val (.int (1 : Int32)), .val (.int vc)] [(.ref b72)]))
      refine OGo.on (fun t k => XS.iload X92.here hx rfl (hb hby d4_52) rfl k) ?_
      show OGo p e below s _ _ _ (T92.setTop (mkF m 54 #[.val (.ref ra), .val (.int (1 : Int32)), .val (.int (0 : Int32)), .val (.ref b72), .val (.int (2 : Int32)), .val (.int (1 : Int32)), .val (.int vc)] [(.int (1 : Int32)), (.ref b72)]))
      refine OGo.on (fun t k => OAL.ia X92 hx hZ e92 V92 ⟨by decide, rfl⟩ (hb hby d4_54) k) ?_
      show OGo p e below s _ _ _ (T92.setTop (mkF m 55 #[.val (.ref ra), .val (.int (1 : Int32)), .val (.int (0 : Int32)), .val (.ref b72), .val (.int (2 : Int32)), .val (.int (1 : Int32)), .val (.int vc)] [(.int vd)]))
      refine OGo.on (fun t k => XS.istore X92.here hx rfl (hb hby d4_55) rfl (l' := #[.val (.ref ra), .val (.int (1 : Int32)), .val (.int (0 : Int32)), .val (.ref b72), .val (.int (2 : Int32)), .val (.int (1 : Int32)), .val (.int vd)]) rfl k) ?_
      show OGo p e below s _ _ _ (T92.setTop (mkF m 57 #[.val (.ref ra), .val (.int (1 : Int32)), .val (.int (0 : Int32)), .val (.ref b72), .val (.int (2 : Int32)), .val (.int (1 : Int32)), .val (.int vd)] []))
      refine OGo.on (fun t k => XS.iload X92.here hx rfl (hb hby d4_57) rfl k) ?_
      show OGo p e below s _ _ _ (T92.setTop (mkF m 59 #[.val (.ref ra), .val (.int (1 : Int32)), .val (.int (0 : Int32)), .val (.ref b72), .val (.int (2 : Int32)), .val (.int (1 : Int32)), .val (.int vd)] [(.int vd)]))
      refine OGo.on (fun t k => X92.ldcI hx hown (mvT hZ (hw _ (List.mem_of_getElem? (i := 33) rfl))) (g := (mkF m 59 #[.val (.ref ra), .val (.int (1 : Int32)), .val (.int (0 : Int32)), .val (.ref b72), .val (.int (2 : Int32)), .val (.int (1 : Int32)), .val (.int vd)] [(.int vd)])) rfl (hb hby d4_59) k) ?_
      show OGo p e below s _ _ _ (T92.setTop (mkF m 61 #[.val (.ref ra), .val (.int (1 : Int32)), .val (.int (0 : Int32)), .val (.ref b72), .val (.int (2 : Int32)), .val (.int (1 : Int32)), .val (.int vd)] [(.int (-2147483648 : Int32)), (.int vd)]))
      by_cases hc101 : vd = (-2147483648 : Int32)
      · refine OGo.on (fun t k => XS.icmpYes X92.here hx rfl (pc0 := 61) (pc' := 67) rfl (hb hby d4_61) rfl (teq hc101).1 (by decide) (by decide) k) ?_
        show OGo p e below s _ _ _ (T92.setTop (mkF m 67 #[.val (.ref ra), .val (.int (1 : Int32)), .val (.int (0 : Int32)), .val (.ref b72), .val (.int (2 : Int32)), .val (.int (1 : Int32)), .val (.int vd)] []))
        refine OGo.on (fun t k => XS.iinc X92.here hx rfl (hb hby d4_67) rfl (l' := #[.val (.ref ra), .val (.int (1 : Int32)), .val (.int (0 : Int32)), .val (.ref b72), .val (.int (2 : Int32)), .val (.int (2 : Int32)), .val (.int vd)]) rfl k) ?_
        show OGo p e below s _ _ _ (T92.setTop (mkF m 70 #[.val (.ref ra), .val (.int (1 : Int32)), .val (.int (0 : Int32)), .val (.ref b72), .val (.int (2 : Int32)), .val (.int (2 : Int32)), .val (.int vd)] []))
        refine OGo.on (fun t k => XS.goto X92.here hx rfl (pc0 := 70) (pc' := 44) rfl (hb hby d4_70) (by decide) (by decide) k) ?_
        show OGo p e below s _ _ _ (T92.setTop (mkF m 44 #[.val (.ref ra), .val (.int (1 : Int32)), .val (.int (0 : Int32)), .val (.ref b72), .val (.int (2 : Int32)), .val (.int (2 : Int32)), .val (.int vd)] []))
        refine OGo.on (fun t k => XS.iload X92.here hx rfl (hb hby d4_44) rfl k) ?_
        show OGo p e below s _ _ _ (T92.setTop (mkF m 46 #[.val (.ref ra), .val (.int (1 : Int32)), .val (.int (0 : Int32)), .val (.ref b72), .val (.int (2 : Int32)), .val (.int (2 : Int32)), .val (.int vd)] [(.int (2 : Int32))]))
        refine OGo.on (fun t k => XS.iload X92.here hx rfl (hb hby d4_46) rfl k) ?_
        show OGo p e below s _ _ _ (T92.setTop (mkF m 48 #[.val (.ref ra), .val (.int (1 : Int32)), .val (.int (0 : Int32)), .val (.ref b72), .val (.int (2 : Int32)), .val (.int (2 : Int32)), .val (.int vd)] [(.int (2 : Int32)), (.int (2 : Int32))]))
        refine OGo.on (fun t k => XS.icmpYes X92.here hx rfl (pc0 := 48) (pc' := 73) rfl (hb hby d4_48) rfl (flt (by decide)).2.1 (by decide) (by decide) k) ?_
        show OGo p e below s _ _ _ (T92.setTop (mkF m 73 #[.val (.ref ra), .val (.int (1 : Int32)), .val (.int (0 : Int32)), .val (.ref b72), .val (.int (2 : Int32)), .val (.int (2 : Int32)), .val (.int vd)] []))
        refine OGo.on (fun t k => XS.iloadN X92.here hx rfl (hb hby d4_73) rfl k) ?_
        show OGo p e below s _ _ _ (T92.setTop (mkF m 74 #[.val (.ref ra), .val (.int (1 : Int32)), .val (.int (0 : Int32)), .val (.ref b72), .val (.int (2 : Int32)), .val (.int (2 : Int32)), .val (.int vd)] [(.int (1 : Int32))]))
        refine OGo.on (fun t k => XS.iloadN X92.here hx rfl (hb hby d4_74) rfl k) ?_
        show OGo p e below s _ _ _ (T92.setTop (mkF m 75 #[.val (.ref ra), .val (.int (1 : Int32)), .val (.int (0 : Int32)), .val (.ref b72), .val (.int (2 : Int32)), .val (.int (2 : Int32)), .val (.int vd)] [(.int (0 : Int32)), (.int (1 : Int32))]))
        refine OGo.on (fun t k => XS.iadd X92.here hx rfl (hb hby d4_75) rfl k) ?_
        show OGo p e below s _ _ _ (T92.setTop (mkF m 76 #[.val (.ref ra), .val (.int (1 : Int32)), .val (.int (0 : Int32)), .val (.ref b72), .val (.int (2 : Int32)), .val (.int (2 : Int32)), .val (.int vd)] [(.int (1 : Int32))]))
        exact OGo.retI X92 hx hret hlk (hb hby d4_76) ⟨congrArg (fun z => some (Value.int z)) (show (1 : Int32) = own_tcs va vb vc vd from by unfold own_tcs; simp only [hc71, hc100, hc101, if_true, if_false] <;> decide), N98, by rw [e92]; exact K99⟩ (by decide) (by decide)
      · refine OGo.on (fun t k => XS.icmpNo X92.here hx rfl (hb hby d4_61) rfl (feq hc101).1 k) ?_
        show OGo p e below s _ _ _ (T92.setTop (mkF m 64 #[.val (.ref ra), .val (.int (1 : Int32)), .val (.int (0 : Int32)), .val (.ref b72), .val (.int (2 : Int32)), .val (.int (1 : Int32)), .val (.int vd)] []))
        refine OGo.on (fun t k => XS.iinc X92.here hx rfl (hb hby d4_64) rfl (l' := #[.val (.ref ra), .val (.int (1 : Int32)), .val (.int (1 : Int32)), .val (.ref b72), .val (.int (2 : Int32)), .val (.int (1 : Int32)), .val (.int vd)]) rfl k) ?_
        show OGo p e below s _ _ _ (T92.setTop (mkF m 67 #[.val (.ref ra), .val (.int (1 : Int32)), .val (.int (1 : Int32)), .val (.ref b72), .val (.int (2 : Int32)), .val (.int (1 : Int32)), .val (.int vd)] []))
        refine OGo.on (fun t k => XS.iinc X92.here hx rfl (hb hby d4_67) rfl (l' := #[.val (.ref ra), .val (.int (1 : Int32)), .val (.int (1 : Int32)), .val (.ref b72), .val (.int (2 : Int32)), .val (.int (2 : Int32)), .val (.int vd)]) rfl k) ?_
        show OGo p e below s _ _ _ (T92.setTop (mkF m 70 #[.val (.ref ra), .val (.int (1 : Int32)), .val (.int (1 : Int32)), .val (.ref b72), .val (.int (2 : Int32)), .val (.int (2 : Int32)), .val (.int vd)] []))
        refine OGo.on (fun t k => XS.goto X92.here hx rfl (pc0 := 70) (pc' := 44) rfl (hb hby d4_70) (by decide) (by decide) k) ?_
        show OGo p e below s _ _ _ (T92.setTop (mkF m 44 #[.val (.ref ra), .val (.int (1 : Int32)), .val (.int (1 : Int32)), .val (.ref b72), .val (.int (2 : Int32)), .val (.int (2 : Int32)), .val (.int vd)] []))
        refine OGo.on (fun t k => XS.iload X92.here hx rfl (hb hby d4_44) rfl k) ?_
        show OGo p e below s _ _ _ (T92.setTop (mkF m 46 #[.val (.ref ra), .val (.int (1 : Int32)), .val (.int (1 : Int32)), .val (.ref b72), .val (.int (2 : Int32)), .val (.int (2 : Int32)), .val (.int vd)] [(.int (2 : Int32))]))
        refine OGo.on (fun t k => XS.iload X92.here hx rfl (hb hby d4_46) rfl k) ?_
        show OGo p e below s _ _ _ (T92.setTop (mkF m 48 #[.val (.ref ra), .val (.int (1 : Int32)), .val (.int (1 : Int32)), .val (.ref b72), .val (.int (2 : Int32)), .val (.int (2 : Int32)), .val (.int vd)] [(.int (2 : Int32)), (.int (2 : Int32))]))
        refine OGo.on (fun t k => XS.icmpYes X92.here hx rfl (pc0 := 48) (pc' := 73) rfl (hb hby d4_48) rfl (flt (by decide)).2.1 (by decide) (by decide) k) ?_
        show OGo p e below s _ _ _ (T92.setTop (mkF m 73 #[.val (.ref ra), .val (.int (1 : Int32)), .val (.int (1 : Int32)), .val (.ref b72), .val (.int (2 : Int32)), .val (.int (2 : Int32)), .val (.int vd)] []))
        refine OGo.on (fun t k => XS.iloadN X92.here hx rfl (hb hby d4_73) rfl k) ?_
        show OGo p e below s _ _ _ (T92.setTop (mkF m 74 #[.val (.ref ra), .val (.int (1 : Int32)), .val (.int (1 : Int32)), .val (.ref b72), .val (.int (2 : Int32)), .val (.int (2 : Int32)), .val (.int vd)] [(.int (1 : Int32))]))
        refine OGo.on (fun t k => XS.iloadN X92.here hx rfl (hb hby d4_74) rfl k) ?_
        show OGo p e below s _ _ _ (T92.setTop (mkF m 75 #[.val (.ref ra), .val (.int (1 : Int32)), .val (.int (1 : Int32)), .val (.ref b72), .val (.int (2 : Int32)), .val (.int (2 : Int32)), .val (.int vd)] [(.int (1 : Int32)), (.int (1 : Int32))]))
        refine OGo.on (fun t k => XS.iadd X92.here hx rfl (hb hby d4_75) rfl k) ?_
        show OGo p e below s _ _ _ (T92.setTop (mkF m 76 #[.val (.ref ra), .val (.int (1 : Int32)), .val (.int (1 : Int32)), .val (.ref b72), .val (.int (2 : Int32)), .val (.int (2 : Int32)), .val (.int vd)] [(.int (2 : Int32))]))
        exact OGo.retI X92 hx hret hlk (hb hby d4_76) ⟨congrArg (fun z => some (Value.int z)) (show (2 : Int32) = own_tcs va vb vc vd from by unfold own_tcs; simp only [hc71, hc100, hc101, if_true, if_false] <;> decide), N98, by rw [e92]; exact K99⟩ (by decide) (by decide)
    · refine OGo.on (fun t k => XS.icmpNo X92.here hx rfl (hb hby d4_61) rfl (feq hc100).1 k) ?_
      show OGo p e below s _ _ _ (T92.setTop (mkF m 64 #[.val (.ref ra), .val (.int (1 : Int32)), .val (.int (0 : Int32)), .val (.ref b72), .val (.int (2 : Int32)), .val (.int (0 : Int32)), .val (.int vc)] []))
      refine OGo.on (fun t k => XS.iinc X92.here hx rfl (hb hby d4_64) rfl (l' := #[.val (.ref ra), .val (.int (1 : Int32)), .val (.int (1 : Int32)), .val (.ref b72), .val (.int (2 : Int32)), .val (.int (0 : Int32)), .val (.int vc)]) rfl k) ?_
      show OGo p e below s _ _ _ (T92.setTop (mkF m 67 #[.val (.ref ra), .val (.int (1 : Int32)), .val (.int (1 : Int32)), .val (.ref b72), .val (.int (2 : Int32)), .val (.int (0 : Int32)), .val (.int vc)] []))
      refine OGo.on (fun t k => XS.iinc X92.here hx rfl (hb hby d4_67) rfl (l' := #[.val (.ref ra), .val (.int (1 : Int32)), .val (.int (1 : Int32)), .val (.ref b72), .val (.int (2 : Int32)), .val (.int (1 : Int32)), .val (.int vc)]) rfl k) ?_
      show OGo p e below s _ _ _ (T92.setTop (mkF m 70 #[.val (.ref ra), .val (.int (1 : Int32)), .val (.int (1 : Int32)), .val (.ref b72), .val (.int (2 : Int32)), .val (.int (1 : Int32)), .val (.int vc)] []))
      refine OGo.on (fun t k => XS.goto X92.here hx rfl (pc0 := 70) (pc' := 44) rfl (hb hby d4_70) (by decide) (by decide) k) ?_
      show OGo p e below s _ _ _ (T92.setTop (mkF m 44 #[.val (.ref ra), .val (.int (1 : Int32)), .val (.int (1 : Int32)), .val (.ref b72), .val (.int (2 : Int32)), .val (.int (1 : Int32)), .val (.int vc)] []))
      refine OGo.on (fun t k => XS.iload X92.here hx rfl (hb hby d4_44) rfl k) ?_
      show OGo p e below s _ _ _ (T92.setTop (mkF m 46 #[.val (.ref ra), .val (.int (1 : Int32)), .val (.int (1 : Int32)), .val (.ref b72), .val (.int (2 : Int32)), .val (.int (1 : Int32)), .val (.int vc)] [(.int (1 : Int32))]))
      refine OGo.on (fun t k => XS.iload X92.here hx rfl (hb hby d4_46) rfl k) ?_
      show OGo p e below s _ _ _ (T92.setTop (mkF m 48 #[.val (.ref ra), .val (.int (1 : Int32)), .val (.int (1 : Int32)), .val (.ref b72), .val (.int (2 : Int32)), .val (.int (1 : Int32)), .val (.int vc)] [(.int (2 : Int32)), (.int (1 : Int32))]))
      refine OGo.on (fun t k => XS.icmpNo X92.here hx rfl (hb hby d4_48) rfl (tlt (by decide)).2.1 k) ?_
      show OGo p e below s _ _ _ (T92.setTop (mkF m 51 #[.val (.ref ra), .val (.int (1 : Int32)), .val (.int (1 : Int32)), .val (.ref b72), .val (.int (2 : Int32)), .val (.int (1 : Int32)), .val (.int vc)] []))
      refine OGo.on (fun t k => XS.aloadN X92.here hx rfl (hb hby d4_51) rfl rfl k) ?_
      show OGo p e below s _ _ _ (T92.setTop (mkF m 52 #[.val (.ref ra), .val (.int (1 : Int32)), .val (.int (1 : Int32)), .val (.ref b72), .val (.int (2 : Int32)), .val (.int (1 : Int32)), .val (.int vc)] [(.ref b72)]))
      refine OGo.on (fun t k => XS.iload X92.here hx rfl (hb hby d4_52) rfl k) ?_
      show OGo p e below s _ _ _ (T92.setTop (mkF m 54 #[.val (.ref ra), .val (.int (1 : Int32)), .val (.int (1 : Int32)), .val (.ref b72), .val (.int (2 : Int32)), .val (.int (1 : Int32)), .val (.int vc)] [(.int (1 : Int32)), (.ref b72)]))
      refine OGo.on (fun t k => OAL.ia X92 hx hZ e92 V92 ⟨by decide, rfl⟩ (hb hby d4_54) k) ?_
      show OGo p e below s _ _ _ (T92.setTop (mkF m 55 #[.val (.ref ra), .val (.int (1 : Int32)), .val (.int (1 : Int32)), .val (.ref b72), .val (.int (2 : Int32)), .val (.int (1 : Int32)), .val (.int vc)] [(.int vd)]))
      refine OGo.on (fun t k => XS.istore X92.here hx rfl (hb hby d4_55) rfl (l' := #[.val (.ref ra), .val (.int (1 : Int32)), .val (.int (1 : Int32)), .val (.ref b72), .val (.int (2 : Int32)), .val (.int (1 : Int32)), .val (.int vd)]) rfl k) ?_
      show OGo p e below s _ _ _ (T92.setTop (mkF m 57 #[.val (.ref ra), .val (.int (1 : Int32)), .val (.int (1 : Int32)), .val (.ref b72), .val (.int (2 : Int32)), .val (.int (1 : Int32)), .val (.int vd)] []))
      refine OGo.on (fun t k => XS.iload X92.here hx rfl (hb hby d4_57) rfl k) ?_
      show OGo p e below s _ _ _ (T92.setTop (mkF m 59 #[.val (.ref ra), .val (.int (1 : Int32)), .val (.int (1 : Int32)), .val (.ref b72), .val (.int (2 : Int32)), .val (.int (1 : Int32)), .val (.int vd)] [(.int vd)]))
      refine OGo.on (fun t k => X92.ldcI hx hown (mvT hZ (hw _ (List.mem_of_getElem? (i := 33) rfl))) (g := (mkF m 59 #[.val (.ref ra), .val (.int (1 : Int32)), .val (.int (1 : Int32)), .val (.ref b72), .val (.int (2 : Int32)), .val (.int (1 : Int32)), .val (.int vd)] [(.int vd)])) rfl (hb hby d4_59) k) ?_
      show OGo p e below s _ _ _ (T92.setTop (mkF m 61 #[.val (.ref ra), .val (.int (1 : Int32)), .val (.int (1 : Int32)), .val (.ref b72), .val (.int (2 : Int32)), .val (.int (1 : Int32)), .val (.int vd)] [(.int (-2147483648 : Int32)), (.int vd)]))
      by_cases hc102 : vd = (-2147483648 : Int32)
      · refine OGo.on (fun t k => XS.icmpYes X92.here hx rfl (pc0 := 61) (pc' := 67) rfl (hb hby d4_61) rfl (teq hc102).1 (by decide) (by decide) k) ?_
        show OGo p e below s _ _ _ (T92.setTop (mkF m 67 #[.val (.ref ra), .val (.int (1 : Int32)), .val (.int (1 : Int32)), .val (.ref b72), .val (.int (2 : Int32)), .val (.int (1 : Int32)), .val (.int vd)] []))
        refine OGo.on (fun t k => XS.iinc X92.here hx rfl (hb hby d4_67) rfl (l' := #[.val (.ref ra), .val (.int (1 : Int32)), .val (.int (1 : Int32)), .val (.ref b72), .val (.int (2 : Int32)), .val (.int (2 : Int32)), .val (.int vd)]) rfl k) ?_
        show OGo p e below s _ _ _ (T92.setTop (mkF m 70 #[.val (.ref ra), .val (.int (1 : Int32)), .val (.int (1 : Int32)), .val (.ref b72), .val (.int (2 : Int32)), .val (.int (2 : Int32)), .val (.int vd)] []))
        refine OGo.on (fun t k => XS.goto X92.here hx rfl (pc0 := 70) (pc' := 44) rfl (hb hby d4_70) (by decide) (by decide) k) ?_
        show OGo p e below s _ _ _ (T92.setTop (mkF m 44 #[.val (.ref ra), .val (.int (1 : Int32)), .val (.int (1 : Int32)), .val (.ref b72), .val (.int (2 : Int32)), .val (.int (2 : Int32)), .val (.int vd)] []))
        refine OGo.on (fun t k => XS.iload X92.here hx rfl (hb hby d4_44) rfl k) ?_
        show OGo p e below s _ _ _ (T92.setTop (mkF m 46 #[.val (.ref ra), .val (.int (1 : Int32)), .val (.int (1 : Int32)), .val (.ref b72), .val (.int (2 : Int32)), .val (.int (2 : Int32)), .val (.int vd)] [(.int (2 : Int32))]))
        refine OGo.on (fun t k => XS.iload X92.here hx rfl (hb hby d4_46) rfl k) ?_
        show OGo p e below s _ _ _ (T92.setTop (mkF m 48 #[.val (.ref ra), .val (.int (1 : Int32)), .val (.int (1 : Int32)), .val (.ref b72), .val (.int (2 : Int32)), .val (.int (2 : Int32)), .val (.int vd)] [(.int (2 : Int32)), (.int (2 : Int32))]))
        refine OGo.on (fun t k => XS.icmpYes X92.here hx rfl (pc0 := 48) (pc' := 73) rfl (hb hby d4_48) rfl (flt (by decide)).2.1 (by decide) (by decide) k) ?_
        show OGo p e below s _ _ _ (T92.setTop (mkF m 73 #[.val (.ref ra), .val (.int (1 : Int32)), .val (.int (1 : Int32)), .val (.ref b72), .val (.int (2 : Int32)), .val (.int (2 : Int32)), .val (.int vd)] []))
        refine OGo.on (fun t k => XS.iloadN X92.here hx rfl (hb hby d4_73) rfl k) ?_
        show OGo p e below s _ _ _ (T92.setTop (mkF m 74 #[.val (.ref ra), .val (.int (1 : Int32)), .val (.int (1 : Int32)), .val (.ref b72), .val (.int (2 : Int32)), .val (.int (2 : Int32)), .val (.int vd)] [(.int (1 : Int32))]))
        refine OGo.on (fun t k => XS.iloadN X92.here hx rfl (hb hby d4_74) rfl k) ?_
        show OGo p e below s _ _ _ (T92.setTop (mkF m 75 #[.val (.ref ra), .val (.int (1 : Int32)), .val (.int (1 : Int32)), .val (.ref b72), .val (.int (2 : Int32)), .val (.int (2 : Int32)), .val (.int vd)] [(.int (1 : Int32)), (.int (1 : Int32))]))
        refine OGo.on (fun t k => XS.iadd X92.here hx rfl (hb hby d4_75) rfl k) ?_
        show OGo p e below s _ _ _ (T92.setTop (mkF m 76 #[.val (.ref ra), .val (.int (1 : Int32)), .val (.int (1 : Int32)), .val (.ref b72), .val (.int (2 : Int32)), .val (.int (2 : Int32)), .val (.int vd)] [(.int (2 : Int32))]))
        exact OGo.retI X92 hx hret hlk (hb hby d4_76) ⟨congrArg (fun z => some (Value.int z)) (show (2 : Int32) = own_tcs va vb vc vd from by unfold own_tcs; simp only [hc71, hc100, hc102, if_true, if_false] <;> decide), N98, by rw [e92]; exact K99⟩ (by decide) (by decide)
      · refine OGo.on (fun t k => XS.icmpNo X92.here hx rfl (hb hby d4_61) rfl (feq hc102).1 k) ?_
        show OGo p e below s _ _ _ (T92.setTop (mkF m 64 #[.val (.ref ra), .val (.int (1 : Int32)), .val (.int (1 : Int32)), .val (.ref b72), .val (.int (2 : Int32)), .val (.int (1 : Int32)), .val (.int vd)] []))
        refine OGo.on (fun t k => XS.iinc X92.here hx rfl (hb hby d4_64) rfl (l' := #[.val (.ref ra), .val (.int (1 : Int32)), .val (.int (2 : Int32)), .val (.ref b72), .val (.int (2 : Int32)), .val (.int (1 : Int32)), .val (.int vd)]) rfl k) ?_
        show OGo p e below s _ _ _ (T92.setTop (mkF m 67 #[.val (.ref ra), .val (.int (1 : Int32)), .val (.int (2 : Int32)), .val (.ref b72), .val (.int (2 : Int32)), .val (.int (1 : Int32)), .val (.int vd)] []))
        refine OGo.on (fun t k => XS.iinc X92.here hx rfl (hb hby d4_67) rfl (l' := #[.val (.ref ra), .val (.int (1 : Int32)), .val (.int (2 : Int32)), .val (.ref b72), .val (.int (2 : Int32)), .val (.int (2 : Int32)), .val (.int vd)]) rfl k) ?_
        show OGo p e below s _ _ _ (T92.setTop (mkF m 70 #[.val (.ref ra), .val (.int (1 : Int32)), .val (.int (2 : Int32)), .val (.ref b72), .val (.int (2 : Int32)), .val (.int (2 : Int32)), .val (.int vd)] []))
        refine OGo.on (fun t k => XS.goto X92.here hx rfl (pc0 := 70) (pc' := 44) rfl (hb hby d4_70) (by decide) (by decide) k) ?_
        show OGo p e below s _ _ _ (T92.setTop (mkF m 44 #[.val (.ref ra), .val (.int (1 : Int32)), .val (.int (2 : Int32)), .val (.ref b72), .val (.int (2 : Int32)), .val (.int (2 : Int32)), .val (.int vd)] []))
        refine OGo.on (fun t k => XS.iload X92.here hx rfl (hb hby d4_44) rfl k) ?_
        show OGo p e below s _ _ _ (T92.setTop (mkF m 46 #[.val (.ref ra), .val (.int (1 : Int32)), .val (.int (2 : Int32)), .val (.ref b72), .val (.int (2 : Int32)), .val (.int (2 : Int32)), .val (.int vd)] [(.int (2 : Int32))]))
        refine OGo.on (fun t k => XS.iload X92.here hx rfl (hb hby d4_46) rfl k) ?_
        show OGo p e below s _ _ _ (T92.setTop (mkF m 48 #[.val (.ref ra), .val (.int (1 : Int32)), .val (.int (2 : Int32)), .val (.ref b72), .val (.int (2 : Int32)), .val (.int (2 : Int32)), .val (.int vd)] [(.int (2 : Int32)), (.int (2 : Int32))]))
        refine OGo.on (fun t k => XS.icmpYes X92.here hx rfl (pc0 := 48) (pc' := 73) rfl (hb hby d4_48) rfl (flt (by decide)).2.1 (by decide) (by decide) k) ?_
        show OGo p e below s _ _ _ (T92.setTop (mkF m 73 #[.val (.ref ra), .val (.int (1 : Int32)), .val (.int (2 : Int32)), .val (.ref b72), .val (.int (2 : Int32)), .val (.int (2 : Int32)), .val (.int vd)] []))
        refine OGo.on (fun t k => XS.iloadN X92.here hx rfl (hb hby d4_73) rfl k) ?_
        show OGo p e below s _ _ _ (T92.setTop (mkF m 74 #[.val (.ref ra), .val (.int (1 : Int32)), .val (.int (2 : Int32)), .val (.ref b72), .val (.int (2 : Int32)), .val (.int (2 : Int32)), .val (.int vd)] [(.int (1 : Int32))]))
        refine OGo.on (fun t k => XS.iloadN X92.here hx rfl (hb hby d4_74) rfl k) ?_
        show OGo p e below s _ _ _ (T92.setTop (mkF m 75 #[.val (.ref ra), .val (.int (1 : Int32)), .val (.int (2 : Int32)), .val (.ref b72), .val (.int (2 : Int32)), .val (.int (2 : Int32)), .val (.int vd)] [(.int (2 : Int32)), (.int (1 : Int32))]))
        refine OGo.on (fun t k => XS.iadd X92.here hx rfl (hb hby d4_75) rfl k) ?_
        show OGo p e below s _ _ _ (T92.setTop (mkF m 76 #[.val (.ref ra), .val (.int (1 : Int32)), .val (.int (2 : Int32)), .val (.ref b72), .val (.int (2 : Int32)), .val (.int (2 : Int32)), .val (.int vd)] [(.int (3 : Int32))]))
        exact OGo.retI X92 hx hret hlk (hb hby d4_76) ⟨congrArg (fun z => some (Value.int z)) (show (3 : Int32) = own_tcs va vb vc vd from by unfold own_tcs; simp only [hc71, hc100, hc102, if_true, if_false] <;> decide), N98, by rw [e92]; exact K99⟩ (by decide) (by decide)
  · refine OGo.on (fun t k => XS.icmpYes X70.here hx rfl (pc0 := 8) (pc' := 15) rfl (hb hby d4_8) rfl (feq hc71).2 (by decide) (by decide) k) ?_
    show OGo p e below s _ _ _ (T70.setTop (mkF m 15 #[.val (.ref ra), .unset, .unset, .unset, .unset, .unset, .unset] []))
    refine OGo.on (fun t k => XS.iconst X70.here hx rfl (hb hby d4_15) k) ?_
    show OGo p e below s _ _ _ (T70.setTop (mkF m 16 #[.val (.ref ra), .unset, .unset, .unset, .unset, .unset, .unset] [(.int (2 : Int32))]))
    refine OGo.on (fun t k => XS.istoreN X70.here hx rfl (hb hby d4_16) rfl (l' := #[.val (.ref ra), .val (.int (2 : Int32)), .unset, .unset, .unset, .unset, .unset]) rfl k) ?_
    show OGo p e below s _ _ _ (T70.setTop (mkF m 17 #[.val (.ref ra), .val (.int (2 : Int32)), .unset, .unset, .unset, .unset, .unset] []))
    refine OGo.on (fun t k => XS.iconst X70.here hx rfl (hb hby d4_17) k) ?_
    show OGo p e below s _ _ _ (T70.setTop (mkF m 18 #[.val (.ref ra), .val (.int (2 : Int32)), .unset, .unset, .unset, .unset, .unset] [(.int (0 : Int32))]))
    refine OGo.on (fun t k => XS.istoreN X70.here hx rfl (hb hby d4_18) rfl (l' := #[.val (.ref ra), .val (.int (2 : Int32)), .val (.int (0 : Int32)), .unset, .unset, .unset, .unset]) rfl k) ?_
    show OGo p e below s _ _ _ (T70.setTop (mkF m 19 #[.val (.ref ra), .val (.int (2 : Int32)), .val (.int (0 : Int32)), .unset, .unset, .unset, .unset] []))
    refine OGo.on (fun t k => XS.iconst X70.here hx rfl (hb hby d4_19) k) ?_
    show OGo p e below s _ _ _ (T70.setTop (mkF m 20 #[.val (.ref ra), .val (.int (2 : Int32)), .val (.int (0 : Int32)), .unset, .unset, .unset, .unset] [(.int (2 : Int32))]))
    obtain ⟨T103, h103, k103, X103, e103, E103, A103, st103⟩ := newP X70 hx hZ (hw _ (List.mem_of_getElem? (i := 32) rfl)) e70 (g := (mkF m 20 #[.val (.ref ra), .val (.int (2 : Int32)), .val (.int (0 : Int32)), .unset, .unset, .unset, .unset] [(.int (2 : Int32))])) rfl (hb hby d4_20) rfl (by decide) (cap := 2) (by decide) (by decide) (by decide) (by decide)
    obtain ⟨b103, g103⟩ : ∃ z, z = h0.size := ⟨_, rfl⟩
    rw [← g103] at A103 st103
    have ne104 : ra ≠ b103 := Nat.ne_of_lt (Nat.lt_of_lt_of_le F_startColumn_ra.lt (Nat.le_of_eq g103.symm))
    have ge105 : n0 ≤ b103 := Nat.le_trans Z0 (Nat.le_of_eq g103.symm)
    have sz106 : h0.size ≤ b103 := Nat.le_trans K0.1 (Nat.le_of_eq g103.symm)
    have f107 : Fld Z h103 ra "com/example/metrilog/metrilog/TemporalMapping" "startColumn" "I" (.int va) := F_startColumn_ra.ext E103
    have f108 : Fld Z h103 ra "com/example/metrilog/metrilog/TemporalMapping" "endColumn" "I" (.int vb) := F_endColumn_ra.ext E103
    have f109 : Fld Z h103 ra "com/example/metrilog/metrilog/TemporalMapping" "startClosedColumn" "I" (.int vc) := F_startClosedColumn_ra.ext E103
    have f110 : Fld Z h103 ra "com/example/metrilog/metrilog/TemporalMapping" "endClosedColumn" "I" (.int vd) := F_endClosedColumn_ra.ext E103
    have Z111 : n0 ≤ h103.size := Nat.le_trans Z0 E103.1
    have K112 : Keep h0 h103 [] := K0.ext E103
    have V103 : OAL Z h103 b103 .int [(0 : Int32), (0 : Int32)] := OAL.new A103 rfl
    refine OGo.on st103 ?_
    show OGo p e below s _ _ _ (T103.setTop (mkF m 22 #[.val (.ref ra), .val (.int (2 : Int32)), .val (.int (0 : Int32)), .unset, .unset, .unset, .unset] [(.ref b103)]))
    refine OGo.on (fun t k => XS.dup X103.here hx rfl (hb hby d4_22) rfl rfl k) ?_
    show OGo p e below s _ _ _ (T103.setTop (mkF m 23 #[.val (.ref ra), .val (.int (2 : Int32)), .val (.int (0 : Int32)), .unset, .unset, .unset, .unset] [(.ref b103), (.ref b103)]))
    refine OGo.on (fun t k => XS.iconst X103.here hx rfl (hb hby d4_23) k) ?_
    show OGo p e below s _ _ _ (T103.setTop (mkF m 24 #[.val (.ref ra), .val (.int (2 : Int32)), .val (.int (0 : Int32)), .unset, .unset, .unset, .unset] [(.int (0 : Int32)), (.ref b103), (.ref b103)]))
    refine OGo.on (fun t k => XS.aloadN X103.here hx rfl (hb hby d4_24) rfl rfl k) ?_
    show OGo p e below s _ _ _ (T103.setTop (mkF m 25 #[.val (.ref ra), .val (.int (2 : Int32)), .val (.int (0 : Int32)), .unset, .unset, .unset, .unset] [(.ref ra), (.int (0 : Int32)), (.ref b103), (.ref b103)]))
    obtain ⟨T113, X113, e113, st113⟩ := getF X103 hx hZ hown (host := "") (Or.inl (hw _ (List.mem_of_getElem? (i := 18) rfl))) Via.refl e103 f109 (g := (mkF m 25 #[.val (.ref ra), .val (.int (2 : Int32)), .val (.int (0 : Int32)), .unset, .unset, .unset, .unset] [(.ref ra), (.int (0 : Int32)), (.ref b103), (.ref b103)])) rfl rfl (hb hby d4_25)
    refine OGo.on st113 ?_
    show OGo p e below s _ _ _ (T113.setTop (mkF m 28 #[.val (.ref ra), .val (.int (2 : Int32)), .val (.int (0 : Int32)), .unset, .unset, .unset, .unset] [(.int vc), (.int (0 : Int32)), (.ref b103), (.ref b103)]))
    obtain ⟨T114, h114, X114, e114, W114, A114, st114⟩ := OAL.stI X113 hx hZ e113 V103 (j := (0 : Int32)) (x := vc) (by decide) (by decide : 0 < 2) (Ls := #[.val (.ref ra), .val (.int (2 : Int32)), .val (.int (0 : Int32)), .unset, .unset, .unset, .unset]) (rest := [(.ref b103)]) (hb hby d4_28)
    have f115 : Fld Z h114 ra "com/example/metrilog/metrilog/TemporalMapping" "startColumn" "I" (.int va) := f107.other W114 (Or.inl ne104)
    have f116 : Fld Z h114 ra "com/example/metrilog/metrilog/TemporalMapping" "endColumn" "I" (.int vb) := f108.other W114 (Or.inl ne104)
    have f117 : Fld Z h114 ra "com/example/metrilog/metrilog/TemporalMapping" "startClosedColumn" "I" (.int vc) := f109.other W114 (Or.inl ne104)
    have f118 : Fld Z h114 ra "com/example/metrilog/metrilog/TemporalMapping" "endClosedColumn" "I" (.int vd) := f110.other W114 (Or.inl ne104)
    have Z119 : n0 ≤ h114.size := Nat.le_trans Z111 (Nat.le_of_eq W114.size.symm)
    have N120 := Fr.snoc X114 N0 ge105
    have K121 : Keep h0 h114 [] := K112.wr W114 (Or.inr sz106)
    have V114 : OAL Z h114 b103 .int [vc, (0 : Int32)] := A114
    refine OGo.on st114 ?_
    show OGo p e below s _ _ _ (T114.setTop (mkF m 29 #[.val (.ref ra), .val (.int (2 : Int32)), .val (.int (0 : Int32)), .unset, .unset, .unset, .unset] [(.ref b103)]))
    refine OGo.on (fun t k => XS.dup X114.here hx rfl (hb hby d4_29) rfl rfl k) ?_
    show OGo p e below s _ _ _ (T114.setTop (mkF m 30 #[.val (.ref ra), .val (.int (2 : Int32)), .val (.int (0 : Int32)), .unset, .unset, .unset, .unset] [(.ref b103), (.ref b103)]))
    refine OGo.on (fun t k => XS.iconst X114.here hx rfl (hb hby d4_30) k) ?_
    show OGo p e below s _ _ _ (T114.setTop (mkF m 31 #[.val (.ref ra), .val (.int (2 : Int32)), .val (.int (0 : Int32)), .unset, .unset, .unset, .unset] [(.int (1 : Int32)), (.ref b103), (.ref b103)]))
    refine OGo.on (fun t k => XS.aloadN X114.here hx rfl (hb hby d4_31) rfl rfl k) ?_
    show OGo p e below s _ _ _ (T114.setTop (mkF m 32 #[.val (.ref ra), .val (.int (2 : Int32)), .val (.int (0 : Int32)), .unset, .unset, .unset, .unset] [(.ref ra), (.int (1 : Int32)), (.ref b103), (.ref b103)]))
    obtain ⟨T122, X122, e122, st122⟩ := getF X114 hx hZ hown (host := "") (Or.inl (hw _ (List.mem_of_getElem? (i := 20) rfl))) Via.refl e114 f118 (g := (mkF m 32 #[.val (.ref ra), .val (.int (2 : Int32)), .val (.int (0 : Int32)), .unset, .unset, .unset, .unset] [(.ref ra), (.int (1 : Int32)), (.ref b103), (.ref b103)])) rfl rfl (hb hby d4_32)
    refine OGo.on st122 ?_
    show OGo p e below s _ _ _ (T122.setTop (mkF m 35 #[.val (.ref ra), .val (.int (2 : Int32)), .val (.int (0 : Int32)), .unset, .unset, .unset, .unset] [(.int vd), (.int (1 : Int32)), (.ref b103), (.ref b103)]))
    obtain ⟨T123, h123, X123, e123, W123, A123, st123⟩ := OAL.stI X122 hx hZ e122 V114 (j := (1 : Int32)) (x := vd) (by decide) (by decide : 1 < 2) (Ls := #[.val (.ref ra), .val (.int (2 : Int32)), .val (.int (0 : Int32)), .unset, .unset, .unset, .unset]) (rest := [(.ref b103)]) (hb hby d4_35)
    have f124 : Fld Z h123 ra "com/example/metrilog/metrilog/TemporalMapping" "startColumn" "I" (.int va) := f115.other W123 (Or.inl ne104)
    have f125 : Fld Z h123 ra "com/example/metrilog/metrilog/TemporalMapping" "endColumn" "I" (.int vb) := f116.other W123 (Or.inl ne104)
    have f126 : Fld Z h123 ra "com/example/metrilog/metrilog/TemporalMapping" "startClosedColumn" "I" (.int vc) := f117.other W123 (Or.inl ne104)
    have f127 : Fld Z h123 ra "com/example/metrilog/metrilog/TemporalMapping" "endClosedColumn" "I" (.int vd) := f118.other W123 (Or.inl ne104)
    have Z128 : n0 ≤ h123.size := Nat.le_trans Z119 (Nat.le_of_eq W123.size.symm)
    have N129 := Fr.snoc X123 N120 ge105
    have K130 : Keep h0 h123 [] := K121.wr W123 (Or.inr sz106)
    have V123 : OAL Z h123 b103 .int [vc, vd] := A123
    refine OGo.on st123 ?_
    show OGo p e below s _ _ _ (T123.setTop (mkF m 36 #[.val (.ref ra), .val (.int (2 : Int32)), .val (.int (0 : Int32)), .unset, .unset, .unset, .unset] [(.ref b103)]))
    refine OGo.on (fun t k => XS.astoreN X123.here hx rfl (hb hby d4_36) rfl rfl (l' := #[.val (.ref ra), .val (.int (2 : Int32)), .val (.int (0 : Int32)), .val (.ref b103), .unset, .unset, .unset]) rfl k) ?_
    show OGo p e below s _ _ _ (T123.setTop (mkF m 37 #[.val (.ref ra), .val (.int (2 : Int32)), .val (.int (0 : Int32)), .val (.ref b103), .unset, .unset, .unset] []))
    refine OGo.on (fun t k => XS.aloadN X123.here hx rfl (hb hby d4_37) rfl rfl k) ?_
    show OGo p e below s _ _ _ (T123.setTop (mkF m 38 #[.val (.ref ra), .val (.int (2 : Int32)), .val (.int (0 : Int32)), .val (.ref b103), .unset, .unset, .unset] [(.ref b103)]))
    refine OGo.on (fun t k => OAL.len X123 hx hZ e123 V123 rfl (hb hby d4_38) k) ?_
    show OGo p e below s _ _ _ (T123.setTop (mkF m 39 #[.val (.ref ra), .val (.int (2 : Int32)), .val (.int (0 : Int32)), .val (.ref b103), .unset, .unset, .unset] [(.int (2 : Int32))]))
    refine OGo.on (fun t k => XS.istore X123.here hx rfl (hb hby d4_39) rfl (l' := #[.val (.ref ra), .val (.int (2 : Int32)), .val (.int (0 : Int32)), .val (.ref b103), .val (.int (2 : Int32)), .unset, .unset]) rfl k) ?_
    show OGo p e below s _ _ _ (T123.setTop (mkF m 41 #[.val (.ref ra), .val (.int (2 : Int32)), .val (.int (0 : Int32)), .val (.ref b103), .val (.int (2 : Int32)), .unset, .unset] []))
    refine OGo.on (fun t k => XS.iconst X123.here hx rfl (hb hby d4_41) k) ?_
    show OGo p e below s _ _ _ (T123.setTop (mkF m 42 #[.val (.ref ra), .val (.int (2 : Int32)), .val (.int (0 : Int32)), .val (.ref b103), .val (.int (2 : Int32)), .unset, .unset] [(.int (0 : Int32))]))
    refine OGo.on (fun t k => XS.istore X123.here hx rfl (hb hby d4_42) rfl (l' := #[.val (.ref ra), .val (.int (2 : Int32)), .val (.int (0 : Int32)), .val (.ref b103), .val (.int (2 : Int32)), .val (.int (0 : Int32)), .unset]) rfl k) ?_
    show OGo p e below s _ _ _ (T123.setTop (mkF m 44 #[.val (.ref ra), .val (.int (2 : Int32)), .val (.int (0 : Int32)), .val (.ref b103), .val (.int (2 : Int32)), .val (.int (0 : Int32)), .unset] []))
    refine OGo.on (fun t k => XS.iload X123.here hx rfl (hb hby d4_44) rfl k) ?_
    show OGo p e below s _ _ _ (T123.setTop (mkF m 46 #[.val (.ref ra), .val (.int (2 : Int32)), .val (.int (0 : Int32)), .val (.ref b103), .val (.int (2 : Int32)), .val (.int (0 : Int32)), .unset] [(.int (0 : Int32))]))
    refine OGo.on (fun t k => XS.iload X123.here hx rfl (hb hby d4_46) rfl k) ?_
    show OGo p e below s _ _ _ (T123.setTop (mkF m 48 #[.val (.ref ra), .val (.int (2 : Int32)), .val (.int (0 : Int32)), .val (.ref b103), .val (.int (2 : Int32)), .val (.int (0 : Int32)), .unset] [(.int (2 : Int32)), (.int (0 : Int32))]))
    refine OGo.on (fun t k => XS.icmpNo X123.here hx rfl (hb hby d4_48) rfl (tlt (by decide)).2.1 k) ?_
    show OGo p e below s _ _ _ (T123.setTop (mkF m 51 #[.val (.ref ra), .val (.int (2 : Int32)), .val (.int (0 : Int32)), .val (.ref b103), .val (.int (2 : Int32)), .val (.int (0 : Int32)), .unset] []))
    refine OGo.on (fun t k => XS.aloadN X123.here hx rfl (hb hby d4_51) rfl rfl k) ?_
    show OGo p e below s _ _ _ (T123.setTop (mkF m 52 #[.val (.ref ra), .val (.int (2 : Int32)), .val (.int (0 : Int32)), .val (.ref b103), .val (.int (2 : Int32)), .val (.int (0 : Int32)), .unset] [(.ref b103)]))
    refine OGo.on (fun t k => XS.iload X123.here hx rfl (hb hby d4_52) rfl k) ?_
    show OGo p e below s _ _ _ (T123.setTop (mkF m 54 #[.val (.ref ra), .val (.int (2 : Int32)), .val (.int (0 : Int32)), .val (.ref b103), .val (.int (2 : Int32)), .val (.int (0 : Int32)), .unset] [(.int (0 : Int32)), (.ref b103)]))
    refine OGo.on (fun t k => OAL.ia X123 hx hZ e123 V123 ⟨by decide, rfl⟩ (hb hby d4_54) k) ?_
    show OGo p e below s _ _ _ (T123.setTop (mkF m 55 #[.val (.ref ra), .val (.int (2 : Int32)), .val (.int (0 : Int32)), .val (.ref b103), .val (.int (2 : Int32)), .val (.int (0 : Int32)), .unset] [(.int vc)]))
    refine OGo.on (fun t k => XS.istore X123.here hx rfl (hb hby d4_55) rfl (l' := #[.val (.ref ra), .val (.int (2 : Int32)), .val (.int (0 : Int32)), .val (.ref b103), .val (.int (2 : Int32)), .val (.int (0 : Int32)), .val (.int vc)]) rfl k) ?_
    show OGo p e below s _ _ _ (T123.setTop (mkF m 57 #[.val (.ref ra), .val (.int (2 : Int32)), .val (.int (0 : Int32)), .val (.ref b103), .val (.int (2 : Int32)), .val (.int (0 : Int32)), .val (.int vc)] []))
    refine OGo.on (fun t k => XS.iload X123.here hx rfl (hb hby d4_57) rfl k) ?_
    show OGo p e below s _ _ _ (T123.setTop (mkF m 59 #[.val (.ref ra), .val (.int (2 : Int32)), .val (.int (0 : Int32)), .val (.ref b103), .val (.int (2 : Int32)), .val (.int (0 : Int32)), .val (.int vc)] [(.int vc)]))
    refine OGo.on (fun t k => X123.ldcI hx hown (mvT hZ (hw _ (List.mem_of_getElem? (i := 33) rfl))) (g := (mkF m 59 #[.val (.ref ra), .val (.int (2 : Int32)), .val (.int (0 : Int32)), .val (.ref b103), .val (.int (2 : Int32)), .val (.int (0 : Int32)), .val (.int vc)] [(.int vc)])) rfl (hb hby d4_59) k) ?_
    show OGo p e below s _ _ _ (T123.setTop (mkF m 61 #[.val (.ref ra), .val (.int (2 : Int32)), .val (.int (0 : Int32)), .val (.ref b103), .val (.int (2 : Int32)), .val (.int (0 : Int32)), .val (.int vc)] [(.int (-2147483648 : Int32)), (.int vc)]))
    by_cases hc131 : vc = (-2147483648 : Int32)
    · refine OGo.on (fun t k => XS.icmpYes X123.here hx rfl (pc0 := 61) (pc' := 67) rfl (hb hby d4_61) rfl (teq hc131).1 (by decide) (by decide) k) ?_
      show OGo p e below s _ _ _ (T123.setTop (mkF m 67 #[.val (.ref ra), .val (.int (2 : Int32)), .val (.int (0 : Int32)), .val (.ref b103), .val (.int (2 : Int32)), .val (.int (0 : Int32)), .val (.int vc)] []))
      refine OGo.on (fun t k => XS.iinc X123.here hx rfl (hb hby d4_67) rfl (l' := #[.val (.ref ra), .val (.int (2 : Int32)), .val (.int (0 : Int32)), .val (.ref b103), .val (.int (2 : Int32)), .val (.int (1 : Int32)), .val (.int vc)]) rfl k) ?_
      show OGo p e below s _ _ _ (T123.setTop (mkF m 70 #[.val (.ref ra), .val (.int (2 : Int32)), .val (.int (0 : Int32)), .val (.ref b103), .val (.int (2 : Int32)), .val (.int (1 : Int32)), .val (.int vc)] []))
      refine OGo.on (fun t k => XS.goto X123.here hx rfl (pc0 := 70) (pc' := 44) rfl (hb hby d4_70) (by decide) (by decide) k) ?_
      show OGo p e below s _ _ _ (T123.setTop (mkF m 44 #[.val (.ref ra), .val (.int (2 : Int32)), .val (.int (0 : Int32)), .val (.ref b103), .val (.int (2 : Int32)), .val (.int (1 : Int32)), .val (.int vc)] []))
      refine OGo.on (fun t k => XS.iload X123.here hx rfl (hb hby d4_44) rfl k) ?_
      show OGo p e below s _ _ _ (T123.setTop (mkF m 46 #[.val (.ref ra), .val (.int (2 : Int32)), .val (.int (0 : Int32)), .val (.ref b103), .val (.int (2 : Int32)), .val (.int (1 : Int32)), .val (.int vc)] [(.int (1 : Int32))]))
      refine OGo.on (fun t k => XS.iload X123.here hx rfl (hb hby d4_46) rfl k) ?_
      show OGo p e below s _ _ _ (T123.setTop (mkF m 48 #[.val (.ref ra), .val (.int (2 : Int32)), .val (.int (0 : Int32)), .val (.ref b103), .val (.int (2 : Int32)), .val (.int (1 : Int32)), .val (.int vc)] [(.int (2 : Int32)), (.int (1 : Int32))]))
      refine OGo.on (fun t k => XS.icmpNo X123.here hx rfl (hb hby d4_48) rfl (tlt (by decide)).2.1 k) ?_
      show OGo p e below s _ _ _ (T123.setTop (mkF m 51 #[.val (.ref ra), .val (.int (2 : Int32)), .val (.int (0 : Int32)), .val (.ref b103), .val (.int (2 : Int32)), .val (.int (1 : Int32)), .val (.int vc)] []))
      refine OGo.on (fun t k => XS.aloadN X123.here hx rfl (hb hby d4_51) rfl rfl k) ?_
      show OGo p e below s _ _ _ (T123.setTop (mkF m 52 #[.val (.ref ra), .val (.int (2 : Int32)), .val (.int (0 : Int32)), .val (.ref b103), .val (.int (2 : Int32)), .val (.int (1 : Int32)), .val (.int vc)] [(.ref b103)]))
      refine OGo.on (fun t k => XS.iload X123.here hx rfl (hb hby d4_52) rfl k) ?_
      show OGo p e below s _ _ _ (T123.setTop (mkF m 54 #[.val (.ref ra), .val (.int (2 : Int32)), .val (.int (0 : Int32)), .val (.ref b103), .val (.int (2 : Int32)), .val (.int (1 : Int32)), .val (.int vc)] [(.int (1 : Int32)), (.ref b103)]))
      refine OGo.on (fun t k => OAL.ia X123 hx hZ e123 V123 ⟨by decide, rfl⟩ (hb hby d4_54) k) ?_
      show OGo p e below s _ _ _ (T123.setTop (mkF m 55 #[.val (.ref ra), .val (.int (2 : Int32)), .val (.int (0 : Int32)), .val (.ref b103), .val (.int (2 : Int32)), .val (.int (1 : Int32)), .val (.int vc)] [(.int vd)]))
      refine OGo.on (fun t k => XS.istore X123.here hx rfl (hb hby d4_55) rfl (l' := #[.val (.ref ra), .val (.int (2 : Int32)), .val (.int (0 : Int32)), .val (.ref b103), .val (.int (2 : Int32)), .val (.int (1 : Int32)), .val (.int vd)]) rfl k) ?_
      show OGo p e below s _ _ _ (T123.setTop (mkF m 57 #[.val (.ref ra), .val (.int (2 : Int32)), .val (.int (0 : Int32)), .val (.ref b103), .val (.int (2 : Int32)), .val (.int (1 : Int32)), .val (.int vd)] []))
      refine OGo.on (fun t k => XS.iload X123.here hx rfl (hb hby d4_57) rfl k) ?_
      show OGo p e below s _ _ _ (T123.setTop (mkF m 59 #[.val (.ref ra), .val (.int (2 : Int32)), .val (.int (0 : Int32)), .val (.ref b103), .val (.int (2 : Int32)), .val (.int (1 : Int32)), .val (.int vd)] [(.int vd)]))
      refine OGo.on (fun t k => X123.ldcI hx hown (mvT hZ (hw _ (List.mem_of_getElem? (i := 33) rfl))) (g := (mkF m 59 #[.val (.ref ra), .val (.int (2 : Int32)), .val (.int (0 : Int32)), .val (.ref b103), .val (.int (2 : Int32)), .val (.int (1 : Int32)), .val (.int vd)] [(.int vd)])) rfl (hb hby d4_59) k) ?_
      show OGo p e below s _ _ _ (T123.setTop (mkF m 61 #[.val (.ref ra), .val (.int (2 : Int32)), .val (.int (0 : Int32)), .val (.ref b103), .val (.int (2 : Int32)), .val (.int (1 : Int32)), .val (.int vd)] [(.int (-2147483648 : Int32)), (.int vd)]))
      by_cases hc132 : vd = (-2147483648 : Int32)
      · refine OGo.on (fun t k => XS.icmpYes X123.here hx rfl (pc0 := 61) (pc' := 67) rfl (hb hby d4_61) rfl (teq hc132).1 (by decide) (by decide) k) ?_
        show OGo p e below s _ _ _ (T123.setTop (mkF m 67 #[.val (.ref ra), .val (.int (2 : Int32)), .val (.int (0 : Int32)), .val (.ref b103), .val (.int (2 : Int32)), .val (.int (1 : Int32)), .val (.int vd)] []))
        refine OGo.on (fun t k => XS.iinc X123.here hx rfl (hb hby d4_67) rfl (l' := #[.val (.ref ra), .val (.int (2 : Int32)), .val (.int (0 : Int32)), .val (.ref b103), .val (.int (2 : Int32)), .val (.int (2 : Int32)), .val (.int vd)]) rfl k) ?_
        show OGo p e below s _ _ _ (T123.setTop (mkF m 70 #[.val (.ref ra), .val (.int (2 : Int32)), .val (.int (0 : Int32)), .val (.ref b103), .val (.int (2 : Int32)), .val (.int (2 : Int32)), .val (.int vd)] []))
        refine OGo.on (fun t k => XS.goto X123.here hx rfl (pc0 := 70) (pc' := 44) rfl (hb hby d4_70) (by decide) (by decide) k) ?_
        show OGo p e below s _ _ _ (T123.setTop (mkF m 44 #[.val (.ref ra), .val (.int (2 : Int32)), .val (.int (0 : Int32)), .val (.ref b103), .val (.int (2 : Int32)), .val (.int (2 : Int32)), .val (.int vd)] []))
        refine OGo.on (fun t k => XS.iload X123.here hx rfl (hb hby d4_44) rfl k) ?_
        show OGo p e below s _ _ _ (T123.setTop (mkF m 46 #[.val (.ref ra), .val (.int (2 : Int32)), .val (.int (0 : Int32)), .val (.ref b103), .val (.int (2 : Int32)), .val (.int (2 : Int32)), .val (.int vd)] [(.int (2 : Int32))]))
        refine OGo.on (fun t k => XS.iload X123.here hx rfl (hb hby d4_46) rfl k) ?_
        show OGo p e below s _ _ _ (T123.setTop (mkF m 48 #[.val (.ref ra), .val (.int (2 : Int32)), .val (.int (0 : Int32)), .val (.ref b103), .val (.int (2 : Int32)), .val (.int (2 : Int32)), .val (.int vd)] [(.int (2 : Int32)), (.int (2 : Int32))]))
        refine OGo.on (fun t k => XS.icmpYes X123.here hx rfl (pc0 := 48) (pc' := 73) rfl (hb hby d4_48) rfl (flt (by decide)).2.1 (by decide) (by decide) k) ?_
        show OGo p e below s _ _ _ (T123.setTop (mkF m 73 #[.val (.ref ra), .val (.int (2 : Int32)), .val (.int (0 : Int32)), .val (.ref b103), .val (.int (2 : Int32)), .val (.int (2 : Int32)), .val (.int vd)] []))
        refine OGo.on (fun t k => XS.iloadN X123.here hx rfl (hb hby d4_73) rfl k) ?_
        show OGo p e below s _ _ _ (T123.setTop (mkF m 74 #[.val (.ref ra), .val (.int (2 : Int32)), .val (.int (0 : Int32)), .val (.ref b103), .val (.int (2 : Int32)), .val (.int (2 : Int32)), .val (.int vd)] [(.int (2 : Int32))]))
        refine OGo.on (fun t k => XS.iloadN X123.here hx rfl (hb hby d4_74) rfl k) ?_
        show OGo p e below s _ _ _ (T123.setTop (mkF m 75 #[.val (.ref ra), .val (.int (2 : Int32)), .val (.int (0 : Int32)), .val (.ref b103), .val (.int (2 : Int32)), .val (.int (2 : Int32)), .val (.int vd)] [(.int (0 : Int32)), (.int (2 : Int32))]))
        refine OGo.on (fun t k => XS.iadd X123.here hx rfl (hb hby d4_75) rfl k) ?_
        show OGo p e below s _ _ _ (T123.setTop (mkF m 76 #[.val (.ref ra), .val (.int (2 : Int32)), .val (.int (0 : Int32)), .val (.ref b103), .val (.int (2 : Int32)), .val (.int (2 : Int32)), .val (.int vd)] [(.int (2 : Int32))]))
        exact OGo.retI X123 hx hret hlk (hb hby d4_76) ⟨congrArg (fun z => some (Value.int z)) (show (2 : Int32) = own_tcs va vb vc vd from by unfold own_tcs; simp only [hc71, hc131, hc132, if_true, if_false] <;> decide), N129, by rw [e123]; exact K130⟩ (by decide) (by decide)
      · refine OGo.on (fun t k => XS.icmpNo X123.here hx rfl (hb hby d4_61) rfl (feq hc132).1 k) ?_
        show OGo p e below s _ _ _ (T123.setTop (mkF m 64 #[.val (.ref ra), .val (.int (2 : Int32)), .val (.int (0 : Int32)), .val (.ref b103), .val (.int (2 : Int32)), .val (.int (1 : Int32)), .val (.int vd)] []))
        refine OGo.on (fun t k => XS.iinc X123.here hx rfl (hb hby d4_64) rfl (l' := #[.val (.ref ra), .val (.int (2 : Int32)), .val (.int (1 : Int32)), .val (.ref b103), .val (.int (2 : Int32)), .val (.int (1 : Int32)), .val (.int vd)]) rfl k) ?_
        show OGo p e below s _ _ _ (T123.setTop (mkF m 67 #[.val (.ref ra), .val (.int (2 : Int32)), .val (.int (1 : Int32)), .val (.ref b103), .val (.int (2 : Int32)), .val (.int (1 : Int32)), .val (.int vd)] []))
        refine OGo.on (fun t k => XS.iinc X123.here hx rfl (hb hby d4_67) rfl (l' := #[.val (.ref ra), .val (.int (2 : Int32)), .val (.int (1 : Int32)), .val (.ref b103), .val (.int (2 : Int32)), .val (.int (2 : Int32)), .val (.int vd)]) rfl k) ?_
        show OGo p e below s _ _ _ (T123.setTop (mkF m 70 #[.val (.ref ra), .val (.int (2 : Int32)), .val (.int (1 : Int32)), .val (.ref b103), .val (.int (2 : Int32)), .val (.int (2 : Int32)), .val (.int vd)] []))
        refine OGo.on (fun t k => XS.goto X123.here hx rfl (pc0 := 70) (pc' := 44) rfl (hb hby d4_70) (by decide) (by decide) k) ?_
        show OGo p e below s _ _ _ (T123.setTop (mkF m 44 #[.val (.ref ra), .val (.int (2 : Int32)), .val (.int (1 : Int32)), .val (.ref b103), .val (.int (2 : Int32)), .val (.int (2 : Int32)), .val (.int vd)] []))
        refine OGo.on (fun t k => XS.iload X123.here hx rfl (hb hby d4_44) rfl k) ?_
        show OGo p e below s _ _ _ (T123.setTop (mkF m 46 #[.val (.ref ra), .val (.int (2 : Int32)), .val (.int (1 : Int32)), .val (.ref b103), .val (.int (2 : Int32)), .val (.int (2 : Int32)), .val (.int vd)] [(.int (2 : Int32))]))
        refine OGo.on (fun t k => XS.iload X123.here hx rfl (hb hby d4_46) rfl k) ?_
        show OGo p e below s _ _ _ (T123.setTop (mkF m 48 #[.val (.ref ra), .val (.int (2 : Int32)), .val (.int (1 : Int32)), .val (.ref b103), .val (.int (2 : Int32)), .val (.int (2 : Int32)), .val (.int vd)] [(.int (2 : Int32)), (.int (2 : Int32))]))
        refine OGo.on (fun t k => XS.icmpYes X123.here hx rfl (pc0 := 48) (pc' := 73) rfl (hb hby d4_48) rfl (flt (by decide)).2.1 (by decide) (by decide) k) ?_
        show OGo p e below s _ _ _ (T123.setTop (mkF m 73 #[.val (.ref ra), .val (.int (2 : Int32)), .val (.int (1 : Int32)), .val (.ref b103), .val (.int (2 : Int32)), .val (.int (2 : Int32)), .val (.int vd)] []))
        refine OGo.on (fun t k => XS.iloadN X123.here hx rfl (hb hby d4_73) rfl k) ?_
        show OGo p e below s _ _ _ (T123.setTop (mkF m 74 #[.val (.ref ra), .val (.int (2 : Int32)), .val (.int (1 : Int32)), .val (.ref b103), .val (.int (2 : Int32)), .val (.int (2 : Int32)), .val (.int vd)] [(.int (2 : Int32))]))
        refine OGo.on (fun t k => XS.iloadN X123.here hx rfl (hb hby d4_74) rfl k) ?_
        show OGo p e below s _ _ _ (T123.setTop (mkF m 75 #[.val (.ref ra), .val (.int (2 : Int32)), .val (.int (1 : Int32)), .val (.ref b103), .val (.int (2 : Int32)), .val (.int (2 : Int32)), .val (.int vd)] [(.int (1 : Int32)), (.int (2 : Int32))]))
        refine OGo.on (fun t k => XS.iadd X123.here hx rfl (hb hby d4_75) rfl k) ?_
        show OGo p e below s _ _ _ (T123.setTop (mkF m 76 #[.val (.ref ra), .val (.int (2 : Int32)), .val (.int (1 : Int32)), .val (.ref b103), .val (.int (2 : Int32)), .val (.int (2 : Int32)), .val (.int vd)] [(.int (3 : Int32))]))
        exact OGo.retI X123 hx hret hlk (hb hby d4_76) ⟨congrArg (fun z => some (Value.int z)) (show (3 : Int32) = own_tcs va vb vc vd from by unfold own_tcs; simp only [hc71, hc131, hc132, if_true, if_false] <;> decide), N129, by rw [e123]; exact K130⟩ (by decide) (by decide)
    · refine OGo.on (fun t k => XS.icmpNo X123.here hx rfl (hb hby d4_61) rfl (feq hc131).1 k) ?_
      show OGo p e below s _ _ _ (T123.setTop (mkF m 64 #[.val (.ref ra), .val (.int (2 : Int32)), .val (.int (0 : Int32)), .val (.ref b103), .val (.int (2 : Int32)), .val (.int (0 : Int32)), .val (.int vc)] []))
      refine OGo.on (fun t k => XS.iinc X123.here hx rfl (hb hby d4_64) rfl (l' := #[.val (.ref ra), .val (.int (2 : Int32)), .val (.int (1 : Int32)), .val (.ref b103), .val (.int (2 : Int32)), .val (.int (0 : Int32)), .val (.int vc)]) rfl k) ?_
      show OGo p e below s _ _ _ (T123.setTop (mkF m 67 #[.val (.ref ra), .val (.int (2 : Int32)), .val (.int (1 : Int32)), .val (.ref b103), .val (.int (2 : Int32)), .val (.int (0 : Int32)), .val (.int vc)] []))
      refine OGo.on (fun t k => XS.iinc X123.here hx rfl (hb hby d4_67) rfl (l' := #[.val (.ref ra), .val (.int (2 : Int32)), .val (.int (1 : Int32)), .val (.ref b103), .val (.int (2 : Int32)), .val (.int (1 : Int32)), .val (.int vc)]) rfl k) ?_
      show OGo p e below s _ _ _ (T123.setTop (mkF m 70 #[.val (.ref ra), .val (.int (2 : Int32)), .val (.int (1 : Int32)), .val (.ref b103), .val (.int (2 : Int32)), .val (.int (1 : Int32)), .val (.int vc)] []))
      refine OGo.on (fun t k => XS.goto X123.here hx rfl (pc0 := 70) (pc' := 44) rfl (hb hby d4_70) (by decide) (by decide) k) ?_
      show OGo p e below s _ _ _ (T123.setTop (mkF m 44 #[.val (.ref ra), .val (.int (2 : Int32)), .val (.int (1 : Int32)), .val (.ref b103), .val (.int (2 : Int32)), .val (.int (1 : Int32)), .val (.int vc)] []))
      refine OGo.on (fun t k => XS.iload X123.here hx rfl (hb hby d4_44) rfl k) ?_
      show OGo p e below s _ _ _ (T123.setTop (mkF m 46 #[.val (.ref ra), .val (.int (2 : Int32)), .val (.int (1 : Int32)), .val (.ref b103), .val (.int (2 : Int32)), .val (.int (1 : Int32)), .val (.int vc)] [(.int (1 : Int32))]))
      refine OGo.on (fun t k => XS.iload X123.here hx rfl (hb hby d4_46) rfl k) ?_
      show OGo p e below s _ _ _ (T123.setTop (mkF m 48 #[.val (.ref ra), .val (.int (2 : Int32)), .val (.int (1 : Int32)), .val (.ref b103), .val (.int (2 : Int32)), .val (.int (1 : Int32)), .val (.int vc)] [(.int (2 : Int32)), (.int (1 : Int32))]))
      refine OGo.on (fun t k => XS.icmpNo X123.here hx rfl (hb hby d4_48) rfl (tlt (by decide)).2.1 k) ?_
      show OGo p e below s _ _ _ (T123.setTop (mkF m 51 #[.val (.ref ra), .val (.int (2 : Int32)), .val (.int (1 : Int32)), .val (.ref b103), .val (.int (2 : Int32)), .val (.int (1 : Int32)), .val (.int vc)] []))
      refine OGo.on (fun t k => XS.aloadN X123.here hx rfl (hb hby d4_51) rfl rfl k) ?_
      show OGo p e below s _ _ _ (T123.setTop (mkF m 52 #[.val (.ref ra), .val (.int (2 : Int32)), .val (.int (1 : Int32)), .val (.ref b103), .val (.int (2 : Int32)), .val (.int (1 : Int32)), .val (.int vc)] [(.ref b103)]))
      refine OGo.on (fun t k => XS.iload X123.here hx rfl (hb hby d4_52) rfl k) ?_
      show OGo p e below s _ _ _ (T123.setTop (mkF m 54 #[.val (.ref ra), .val (.int (2 : Int32)), .val (.int (1 : Int32)), .val (.ref b103), .val (.int (2 : Int32)), .val (.int (1 : Int32)), .val (.int vc)] [(.int (1 : Int32)), (.ref b103)]))
      refine OGo.on (fun t k => OAL.ia X123 hx hZ e123 V123 ⟨by decide, rfl⟩ (hb hby d4_54) k) ?_
      show OGo p e below s _ _ _ (T123.setTop (mkF m 55 #[.val (.ref ra), .val (.int (2 : Int32)), .val (.int (1 : Int32)), .val (.ref b103), .val (.int (2 : Int32)), .val (.int (1 : Int32)), .val (.int vc)] [(.int vd)]))
      refine OGo.on (fun t k => XS.istore X123.here hx rfl (hb hby d4_55) rfl (l' := #[.val (.ref ra), .val (.int (2 : Int32)), .val (.int (1 : Int32)), .val (.ref b103), .val (.int (2 : Int32)), .val (.int (1 : Int32)), .val (.int vd)]) rfl k) ?_
      show OGo p e below s _ _ _ (T123.setTop (mkF m 57 #[.val (.ref ra), .val (.int (2 : Int32)), .val (.int (1 : Int32)), .val (.ref b103), .val (.int (2 : Int32)), .val (.int (1 : Int32)), .val (.int vd)] []))
      refine OGo.on (fun t k => XS.iload X123.here hx rfl (hb hby d4_57) rfl k) ?_
      show OGo p e below s _ _ _ (T123.setTop (mkF m 59 #[.val (.ref ra), .val (.int (2 : Int32)), .val (.int (1 : Int32)), .val (.ref b103), .val (.int (2 : Int32)), .val (.int (1 : Int32)), .val (.int vd)] [(.int vd)]))
      refine OGo.on (fun t k => X123.ldcI hx hown (mvT hZ (hw _ (List.mem_of_getElem? (i := 33) rfl))) (g := (mkF m 59 #[.val (.ref ra), .val (.int (2 : Int32)), .val (.int (1 : Int32)), .val (.ref b103), .val (.int (2 : Int32)), .val (.int (1 : Int32)), .val (.int vd)] [(.int vd)])) rfl (hb hby d4_59) k) ?_
      show OGo p e below s _ _ _ (T123.setTop (mkF m 61 #[.val (.ref ra), .val (.int (2 : Int32)), .val (.int (1 : Int32)), .val (.ref b103), .val (.int (2 : Int32)), .val (.int (1 : Int32)), .val (.int vd)] [(.int (-2147483648 : Int32)), (.int vd)]))
      by_cases hc133 : vd = (-2147483648 : Int32)
      · refine OGo.on (fun t k => XS.icmpYes X123.here hx rfl (pc0 := 61) (pc' := 67) rfl (hb hby d4_61) rfl (teq hc133).1 (by decide) (by decide) k) ?_
        show OGo p e below s _ _ _ (T123.setTop (mkF m 67 #[.val (.ref ra), .val (.int (2 : Int32)), .val (.int (1 : Int32)), .val (.ref b103), .val (.int (2 : Int32)), .val (.int (1 : Int32)), .val (.int vd)] []))
        refine OGo.on (fun t k => XS.iinc X123.here hx rfl (hb hby d4_67) rfl (l' := #[.val (.ref ra), .val (.int (2 : Int32)), .val (.int (1 : Int32)), .val (.ref b103), .val (.int (2 : Int32)), .val (.int (2 : Int32)), .val (.int vd)]) rfl k) ?_
        show OGo p e below s _ _ _ (T123.setTop (mkF m 70 #[.val (.ref ra), .val (.int (2 : Int32)), .val (.int (1 : Int32)), .val (.ref b103), .val (.int (2 : Int32)), .val (.int (2 : Int32)), .val (.int vd)] []))
        refine OGo.on (fun t k => XS.goto X123.here hx rfl (pc0 := 70) (pc' := 44) rfl (hb hby d4_70) (by decide) (by decide) k) ?_
        show OGo p e below s _ _ _ (T123.setTop (mkF m 44 #[.val (.ref ra), .val (.int (2 : Int32)), .val (.int (1 : Int32)), .val (.ref b103), .val (.int (2 : Int32)), .val (.int (2 : Int32)), .val (.int vd)] []))
        refine OGo.on (fun t k => XS.iload X123.here hx rfl (hb hby d4_44) rfl k) ?_
        show OGo p e below s _ _ _ (T123.setTop (mkF m 46 #[.val (.ref ra), .val (.int (2 : Int32)), .val (.int (1 : Int32)), .val (.ref b103), .val (.int (2 : Int32)), .val (.int (2 : Int32)), .val (.int vd)] [(.int (2 : Int32))]))
        refine OGo.on (fun t k => XS.iload X123.here hx rfl (hb hby d4_46) rfl k) ?_
        show OGo p e below s _ _ _ (T123.setTop (mkF m 48 #[.val (.ref ra), .val (.int (2 : Int32)), .val (.int (1 : Int32)), .val (.ref b103), .val (.int (2 : Int32)), .val (.int (2 : Int32)), .val (.int vd)] [(.int (2 : Int32)), (.int (2 : Int32))]))
        refine OGo.on (fun t k => XS.icmpYes X123.here hx rfl (pc0 := 48) (pc' := 73) rfl (hb hby d4_48) rfl (flt (by decide)).2.1 (by decide) (by decide) k) ?_
        show OGo p e below s _ _ _ (T123.setTop (mkF m 73 #[.val (.ref ra), .val (.int (2 : Int32)), .val (.int (1 : Int32)), .val (.ref b103), .val (.int (2 : Int32)), .val (.int (2 : Int32)), .val (.int vd)] []))
        refine OGo.on (fun t k => XS.iloadN X123.here hx rfl (hb hby d4_73) rfl k) ?_
        show OGo p e below s _ _ _ (T123.setTop (mkF m 74 #[.val (.ref ra), .val (.int (2 : Int32)), .val (.int (1 : Int32)), .val (.ref b103), .val (.int (2 : Int32)), .val (.int (2 : Int32)), .val (.int vd)] [(.int (2 : Int32))]))
        refine OGo.on (fun t k => XS.iloadN X123.here hx rfl (hb hby d4_74) rfl k) ?_
        show OGo p e below s _ _ _ (T123.setTop (mkF m 75 #[.val (.ref ra), .val (.int (2 : Int32)), .val (.int (1 : Int32)), .val (.ref b103), .val (.int (2 : Int32)), .val (.int (2 : Int32)), .val (.int vd)] [(.int (1 : Int32)), (.int (2 : Int32))]))
        refine OGo.on (fun t k => XS.iadd X123.here hx rfl (hb hby d4_75) rfl k) ?_
        show OGo p e below s _ _ _ (T123.setTop (mkF m 76 #[.val (.ref ra), .val (.int (2 : Int32)), .val (.int (1 : Int32)), .val (.ref b103), .val (.int (2 : Int32)), .val (.int (2 : Int32)), .val (.int vd)] [(.int (3 : Int32))]))
        exact OGo.retI X123 hx hret hlk (hb hby d4_76) ⟨congrArg (fun z => some (Value.int z)) (show (3 : Int32) = own_tcs va vb vc vd from by unfold own_tcs; simp only [hc71, hc131, hc133, if_true, if_false] <;> decide), N129, by rw [e123]; exact K130⟩ (by decide) (by decide)
      · refine OGo.on (fun t k => XS.icmpNo X123.here hx rfl (hb hby d4_61) rfl (feq hc133).1 k) ?_
        show OGo p e below s _ _ _ (T123.setTop (mkF m 64 #[.val (.ref ra), .val (.int (2 : Int32)), .val (.int (1 : Int32)), .val (.ref b103), .val (.int (2 : Int32)), .val (.int (1 : Int32)), .val (.int vd)] []))
        refine OGo.on (fun t k => XS.iinc X123.here hx rfl (hb hby d4_64) rfl (l' := #[.val (.ref ra), .val (.int (2 : Int32)), .val (.int (2 : Int32)), .val (.ref b103), .val (.int (2 : Int32)), .val (.int (1 : Int32)), .val (.int vd)]) rfl k) ?_
        show OGo p e below s _ _ _ (T123.setTop (mkF m 67 #[.val (.ref ra), .val (.int (2 : Int32)), .val (.int (2 : Int32)), .val (.ref b103), .val (.int (2 : Int32)), .val (.int (1 : Int32)), .val (.int vd)] []))
        refine OGo.on (fun t k => XS.iinc X123.here hx rfl (hb hby d4_67) rfl (l' := #[.val (.ref ra), .val (.int (2 : Int32)), .val (.int (2 : Int32)), .val (.ref b103), .val (.int (2 : Int32)), .val (.int (2 : Int32)), .val (.int vd)]) rfl k) ?_
        show OGo p e below s _ _ _ (T123.setTop (mkF m 70 #[.val (.ref ra), .val (.int (2 : Int32)), .val (.int (2 : Int32)), .val (.ref b103), .val (.int (2 : Int32)), .val (.int (2 : Int32)), .val (.int vd)] []))
        refine OGo.on (fun t k => XS.goto X123.here hx rfl (pc0 := 70) (pc' := 44) rfl (hb hby d4_70) (by decide) (by decide) k) ?_
        show OGo p e below s _ _ _ (T123.setTop (mkF m 44 #[.val (.ref ra), .val (.int (2 : Int32)), .val (.int (2 : Int32)), .val (.ref b103), .val (.int (2 : Int32)), .val (.int (2 : Int32)), .val (.int vd)] []))
        refine OGo.on (fun t k => XS.iload X123.here hx rfl (hb hby d4_44) rfl k) ?_
        show OGo p e below s _ _ _ (T123.setTop (mkF m 46 #[.val (.ref ra), .val (.int (2 : Int32)), .val (.int (2 : Int32)), .val (.ref b103), .val (.int (2 : Int32)), .val (.int (2 : Int32)), .val (.int vd)] [(.int (2 : Int32))]))
        refine OGo.on (fun t k => XS.iload X123.here hx rfl (hb hby d4_46) rfl k) ?_
        show OGo p e below s _ _ _ (T123.setTop (mkF m 48 #[.val (.ref ra), .val (.int (2 : Int32)), .val (.int (2 : Int32)), .val (.ref b103), .val (.int (2 : Int32)), .val (.int (2 : Int32)), .val (.int vd)] [(.int (2 : Int32)), (.int (2 : Int32))]))
        refine OGo.on (fun t k => XS.icmpYes X123.here hx rfl (pc0 := 48) (pc' := 73) rfl (hb hby d4_48) rfl (flt (by decide)).2.1 (by decide) (by decide) k) ?_
        show OGo p e below s _ _ _ (T123.setTop (mkF m 73 #[.val (.ref ra), .val (.int (2 : Int32)), .val (.int (2 : Int32)), .val (.ref b103), .val (.int (2 : Int32)), .val (.int (2 : Int32)), .val (.int vd)] []))
        refine OGo.on (fun t k => XS.iloadN X123.here hx rfl (hb hby d4_73) rfl k) ?_
        show OGo p e below s _ _ _ (T123.setTop (mkF m 74 #[.val (.ref ra), .val (.int (2 : Int32)), .val (.int (2 : Int32)), .val (.ref b103), .val (.int (2 : Int32)), .val (.int (2 : Int32)), .val (.int vd)] [(.int (2 : Int32))]))
        refine OGo.on (fun t k => XS.iloadN X123.here hx rfl (hb hby d4_74) rfl k) ?_
        show OGo p e below s _ _ _ (T123.setTop (mkF m 75 #[.val (.ref ra), .val (.int (2 : Int32)), .val (.int (2 : Int32)), .val (.ref b103), .val (.int (2 : Int32)), .val (.int (2 : Int32)), .val (.int vd)] [(.int (2 : Int32)), (.int (2 : Int32))]))
        refine OGo.on (fun t k => XS.iadd X123.here hx rfl (hb hby d4_75) rfl k) ?_
        show OGo p e below s _ _ _ (T123.setTop (mkF m 76 #[.val (.ref ra), .val (.int (2 : Int32)), .val (.int (2 : Int32)), .val (.ref b103), .val (.int (2 : Int32)), .val (.int (2 : Int32)), .val (.int vd)] [(.int (4 : Int32))]))
        exact OGo.retI X123 hx hret hlk (hb hby d4_76) ⟨congrArg (fun z => some (Value.int z)) (show (4 : Int32) = own_tcs va vb vc vd from by unfold own_tcs; simp only [hc71, hc131, hc133, if_true, if_false] <;> decide), N129, by rw [e123]; exact K130⟩ (by decide) (by decide)
theorem own_pn2 : plainName "com/example/metrilog/metrilog/TemporalMappingTimeColumnsPinLaw" = true := by first | (simp [plainName, overriddenIn]; done) | decide +kernel
theorem own_pd1 : parseMethodDescriptor "(IIIIZZ)V" = some ⟨[.int, .int, .int, .int, .boolean, .boolean], none⟩ := by decide +kernel
theorem own_pd2 : parseMethodDescriptor "()I" = some ⟨[], some .int⟩ := by decide +kernel
theorem ef_own_law (m : MethodId) (x0 : Int32) (x1 : Int32) (x2 : Int32) (x3 : Int32) (x4 : Int32) : entryFrame m #[(.int x0), (.int x1), (.int x2), (.int x3), (.int x4)] maxLocals = mkF m 0 #[.val (.int x0), .val (.int x1), .val (.int x2), .val (.int x3), .val (.int x4), .unset, .unset, .unset, .unset, .unset, .unset, .unset, .unset, .unset] [] := by first | (simp [entryFrame, mkF, argsToLocals, Value.category, maxLocals]; done) | rfl
set_option maxRecDepth 65536 in
set_option maxHeartbeats 40000000 in
theorem own_law (l : Launch) (Z : State) (a0 : Array Value) (hw : ∀ d ∈ tables_1, d.before a0 Z = true) (ws : List Jvm.Cond) (va vb vc vd vfl : Int32) (h0 : Heap) (n0 : Nat) (Z0 : n0 ≤ h0.size)  :
    MetFree l x (head1 (Jvm.Cond.code x code maxLocals ret :: ws) room_1) (fun a U => a = #[(.int va), (.int vb), (.int vc), (.int vd), (.int vfl)] ∧ Z.Warmed39 U.vm ∧ U.heap = h0) (fun _ _ _ _ _ => True) (fun _ U o U' => ∃ v L, o = .returned v ∧ (fun v h L => v = some (.int 1) ∧ Fr n0 L) v U'.heap L ∧ FrameEnd U o U' L 16 128) := by
  refine MetFree.of_bodySF (plainFor_of_name own_pn2) hisR ?_
  intro p e s m args below meth c s₁ Bd hml0 hP hK
  obtain ⟨rfl, hZ, hh⟩ := hP
  have hx := Bd.exec
  have hby := Bd.bytes
  have hret := Bd.returns
  have hlk : meth.locks = false := Bd.notSynchronized
  have hml : c.maxLocals = 14 := hml0
  have hown : s.vm.findClass "com/example/metrilog/metrilog/TemporalMappingTimeColumnsPinLaw" = some m.cls := findClass_of_methodNamed Bd.named
  have hnm := (name_of_methodNamed Bd.named Bd.method).1
  have X0 : Stand p l e room_1 s m #[(.int va), (.int vb), (.int vc), (.int vd), (.int vfl)] below meth c s₁ [] 0 0 := Stand.of_body Bd
  have e0 : s₁.heap = h0 := by rw [← hh, Bd.state]; rfl
  have N0 := Fr.nil n0
  have pre0 : ∀ t, Steps p.tables e below (s₁.setTop (mkF m 0 #[.val (.int va), .val (.int vb), .val (.int vc), .val (.int vd), .val (.int vfl), .unset, .unset, .unset, .unset, .unset, .unset, .unset, .unset, .unset] [])) t → Steps p.tables e below (s₁.setTop (entryFrame m #[(.int va), (.int vb), (.int vc), (.int vd), (.int vfl)] maxLocals)) t := fun t k => castTop (ef_own_law m va vb vc vd vfl) k
  show OGo p e below s (fun v h L => v = some (.int 1) ∧ Fr n0 L) 16 128 (s₁.setTop (entryFrame m #[(.int va), (.int vb), (.int vc), (.int vd), (.int vfl)] maxLocals))
  refine OGo.on pre0 ?_
  show OGo p e below s _ _ _ (s₁.setTop (mkF m 0 #[.val (.int va), .val (.int vb), .val (.int vc), .val (.int vd), .val (.int vfl), .unset, .unset, .unset, .unset, .unset, .unset, .unset, .unset, .unset] []))
  have J74 : ∀ (x5 x6 x7 x8 x9 : Int32), OGo p e below s (fun v h L => v = some (.int 1) ∧ Fr n0 L) 16 128 (s₁.setTop (mkF m 74 #[.val (.int va), .val (.int vb), .val (.int vc), .val (.int vd), .val (.int vfl), .val (.int x5), .val (.int x6), .val (.int x7), .val (.int x8), .val (.int x9), .unset, .unset, .unset, .unset] [])) := by
    intro x5 x6 x7 x8 x9
    show OGo p e below s _ _ _ (s₁.setTop (mkF m 74 #[.val (.int va), .val (.int vb), .val (.int vc), .val (.int vd), .val (.int vfl), .val (.int x5), .val (.int x6), .val (.int x7), .val (.int x8), .val (.int x9), .unset, .unset, .unset, .unset] []))
    obtain ⟨T134, h134, X134, e134, E134, A134, D134, -, st134⟩ := newO X0 hx hZ hown (hw _ (List.mem_of_getElem? (i := 0) rfl)) (hw _ (List.mem_of_getElem? (i := 1) rfl)) (hw _ (List.mem_of_getElem? (i := 2) rfl)) e0 (g := (mkF m 74 #[.val (.int va), .val (.int vb), .val (.int vc), .val (.int vd), .val (.int vfl), .val (.int x5), .val (.int x6), .val (.int x7), .val (.int x8), .val (.int x9), .unset, .unset, .unset, .unset] [])) rfl (hb hby at_74) (by decide) (by decide)
    obtain ⟨b134, g134⟩ : ∃ z, z = h0.size := ⟨_, rfl⟩
    rw [← g134] at A134 D134 st134
    have ge135 : n0 ≤ b134 := Nat.le_trans Z0 (Nat.le_of_eq g134.symm)
    have Z136 : n0 ≤ h134.size := Nat.le_trans Z0 E134.1
    have f137 : Fld Z h134 b134 "com/example/metrilog/metrilog/TemporalMapping" "startColumn" "I" (.int (0 : Int32)) := D134 (Or.inr (hw _ (List.mem_of_getElem? (i := 15) rfl))) (ty := .int) (by decide)
    have f138 : Fld Z h134 b134 "com/example/metrilog/metrilog/TemporalMapping" "endColumn" "I" (.int (0 : Int32)) := D134 (Or.inr (hw _ (List.mem_of_getElem? (i := 17) rfl))) (ty := .int) (by decide)
    have f139 : Fld Z h134 b134 "com/example/metrilog/metrilog/TemporalMapping" "startClosedColumn" "I" (.int (0 : Int32)) := D134 (Or.inr (hw _ (List.mem_of_getElem? (i := 19) rfl))) (ty := .int) (by decide)
    have f140 : Fld Z h134 b134 "com/example/metrilog/metrilog/TemporalMapping" "endClosedColumn" "I" (.int (0 : Int32)) := D134 (Or.inr (hw _ (List.mem_of_getElem? (i := 21) rfl))) (ty := .int) (by decide)
    have f141 : Fld Z h134 b134 "com/example/metrilog/metrilog/TemporalMapping" "startClosed" "Z" (.int (0 : Int32)) := D134 (Or.inr (hw _ (List.mem_of_getElem? (i := 23) rfl))) (ty := .boolean) (by decide)
    have f142 : Fld Z h134 b134 "com/example/metrilog/metrilog/TemporalMapping" "endClosed" "Z" (.int (0 : Int32)) := D134 (Or.inr (hw _ (List.mem_of_getElem? (i := 25) rfl))) (ty := .boolean) (by decide)
    refine OGo.on st134 ?_
    show OGo p e below s _ _ _ (T134.setTop (mkF m 77 #[.val (.int va), .val (.int vb), .val (.int vc), .val (.int vd), .val (.int vfl), .val (.int x5), .val (.int x6), .val (.int x7), .val (.int x8), .val (.int x9), .unset, .unset, .unset, .unset] [(.ref b134)]))
    refine OGo.on (fun t k => XS.dup X134.here hx rfl (hb hby at_77) rfl rfl k) ?_
    show OGo p e below s _ _ _ (T134.setTop (mkF m 78 #[.val (.int va), .val (.int vb), .val (.int vc), .val (.int vd), .val (.int vfl), .val (.int x5), .val (.int x6), .val (.int x7), .val (.int x8), .val (.int x9), .unset, .unset, .unset, .unset] [(.ref b134), (.ref b134)]))
    refine OGo.on (fun t k => XS.iloadN X134.here hx rfl (hb hby at_78) rfl k) ?_
    show OGo p e below s _ _ _ (T134.setTop (mkF m 79 #[.val (.int va), .val (.int vb), .val (.int vc), .val (.int vd), .val (.int vfl), .val (.int x5), .val (.int x6), .val (.int x7), .val (.int x8), .val (.int x9), .unset, .unset, .unset, .unset] [(.int va), (.ref b134), (.ref b134)]))
    refine OGo.on (fun t k => XS.iload X134.here hx rfl (hb hby at_79) rfl k) ?_
    show OGo p e below s _ _ _ (T134.setTop (mkF m 81 #[.val (.int va), .val (.int vb), .val (.int vc), .val (.int vd), .val (.int vfl), .val (.int x5), .val (.int x6), .val (.int x7), .val (.int x8), .val (.int x9), .unset, .unset, .unset, .unset] [(.int x5), (.int va), (.ref b134), (.ref b134)]))
    refine OGo.on (fun t k => XS.iload X134.here hx rfl (hb hby at_81) rfl k) ?_
    show OGo p e below s _ _ _ (T134.setTop (mkF m 83 #[.val (.int va), .val (.int vb), .val (.int vc), .val (.int vd), .val (.int vfl), .val (.int x5), .val (.int x6), .val (.int x7), .val (.int x8), .val (.int x9), .unset, .unset, .unset, .unset] [(.int x6), (.int x5), (.int va), (.ref b134), (.ref b134)]))
    refine OGo.on (fun t k => XS.iload X134.here hx rfl (hb hby at_83) rfl k) ?_
    show OGo p e below s _ _ _ (T134.setTop (mkF m 85 #[.val (.int va), .val (.int vb), .val (.int vc), .val (.int vd), .val (.int vfl), .val (.int x5), .val (.int x6), .val (.int x7), .val (.int x8), .val (.int x9), .unset, .unset, .unset, .unset] [(.int x7), (.int x6), (.int x5), (.int va), (.ref b134), (.ref b134)]))
    refine OGo.on (fun t k => XS.iload X134.here hx rfl (hb hby at_85) rfl k) ?_
    show OGo p e below s _ _ _ (T134.setTop (mkF m 87 #[.val (.int va), .val (.int vb), .val (.int vc), .val (.int vd), .val (.int vfl), .val (.int x5), .val (.int x6), .val (.int x7), .val (.int x8), .val (.int x9), .unset, .unset, .unset, .unset] [(.int x8), (.int x7), (.int x6), (.int x5), (.int va), (.ref b134), (.ref b134)]))
    refine OGo.on (fun t k => XS.iload X134.here hx rfl (hb hby at_87) rfl k) ?_
    show OGo p e below s _ _ _ (T134.setTop (mkF m 89 #[.val (.int va), .val (.int vb), .val (.int vc), .val (.int vd), .val (.int vfl), .val (.int x5), .val (.int x6), .val (.int x7), .val (.int x8), .val (.int x9), .unset, .unset, .unset, .unset] [(.int x9), (.int x8), (.int x7), (.int x6), (.int x5), (.int va), (.ref b134), (.ref b134)]))
    obtain ⟨_, _, ⟨T143, L143, k143, n143⟩, -, X143, ⟨Lc143, hQ143, l143, y143, z143⟩, st143⟩ := X134.specialBack hx (y := (⟨"com/example/metrilog/metrilog/TemporalMapping", "<init>", "(IIIIZZ)V"⟩ : MethodName)) rfl hown (mvT hZ (hw _ (List.mem_of_getElem? (i := 3) rfl))) (mvT hZ (hw _ (List.mem_of_getElem? (i := 4) rfl))) (mvT hZ (hw _ (List.mem_of_getElem? (i := 5) rfl))) (by decide) (backOf (W := 1) (own_minit l Z a0 hw [] b134 va x5 x6 x7 x8 x9 h134 n0 Z136 ge135 A134 f137 f138 f139 f140 f141 f142) hZ (hw _ (List.mem_of_getElem? (i := 5) rfl)) (hw _ (List.mem_of_getElem? (i := 2) rfl)) (by decide) (by decide)) (g := (mkF m 89 #[.val (.int va), .val (.int vb), .val (.int vc), .val (.int vd), .val (.int vfl), .val (.int x5), .val (.int x6), .val (.int x7), .val (.int x8), .val (.int x9), .unset, .unset, .unset, .unset] [(.int x9), (.int x8), (.int x7), (.int x6), (.int x5), (.int va), (.ref b134), (.ref b134)])) rfl (by rw [hml]; rfl) (Steps.refl _) (a := b134) (argsL := [(.int va), (.int x5), (.int x6), (.int x7), (.int x8), (.int x9)]) (rest := [(.ref b134)]) (lenOf own_pd1 rfl) rfl (by show 2 * 0 + _ ≤ _; exact Nat.le_of_eq rfl) (hb hby at_89) (fun _ _ => ⟨rfl, e134, (by decide : 1 + 0 ≤ _), (by decide : 6 + 0 ≤ _)⟩)
    dsimp only [Pt.U, Pt.locs, Pt.cells, Pt.slots] at X143 l143 y143 z143 st143 hQ143
    subst l143 y143 z143
    obtain ⟨rfl, N143q, K143, Fw143_0', Fw143_1', Fw143_2', Fw143_3', Fw143_4', Fw143_5'⟩ := hQ143
    have N143 := Fr.app N0 N143q
    have Fw143_0 : Fld Z T143.heap b134 "com/example/metrilog/metrilog/TemporalMapping" "startColumn" "I" (.int va) := Fw143_0'
    have Fw143_1 : Fld Z T143.heap b134 "com/example/metrilog/metrilog/TemporalMapping" "endColumn" "I" (.int x5) := Fw143_1'
    have Fw143_2 : Fld Z T143.heap b134 "com/example/metrilog/metrilog/TemporalMapping" "startClosedColumn" "I" (.int x6) := Fw143_2'
    have Fw143_3 : Fld Z T143.heap b134 "com/example/metrilog/metrilog/TemporalMapping" "endClosedColumn" "I" (.int x7) := Fw143_3'
    have Fw143_4 : Fld Z T143.heap b134 "com/example/metrilog/metrilog/TemporalMapping" "startClosed" "Z" (.int (nar .boolean x8)) := Fw143_4'
    have Fw143_5 : Fld Z T143.heap b134 "com/example/metrilog/metrilog/TemporalMapping" "endClosed" "Z" (.int (nar .boolean x9)) := Fw143_5'
    have f144 : Exa Z T143.heap b134 "com/example/metrilog/metrilog/TemporalMapping" := A134.keep K143
    have Z145 : n0 ≤ T143.heap.size := Nat.le_trans Z136 K143.1
    refine OGo.on (fun t k => st143.trans k) ?_
    show OGo p e below s _ _ _ (T143.setTop (mkF m 92 #[.val (.int va), .val (.int vb), .val (.int vc), .val (.int vd), .val (.int vfl), .val (.int x5), .val (.int x6), .val (.int x7), .val (.int x8), .val (.int x9), .unset, .unset, .unset, .unset] [(.ref b134)]))
    refine OGo.on (fun t k => XS.astore X143.here hx rfl (hb hby at_92) rfl rfl (l' := #[.val (.int va), .val (.int vb), .val (.int vc), .val (.int vd), .val (.int vfl), .val (.int x5), .val (.int x6), .val (.int x7), .val (.int x8), .val (.int x9), .val (.ref b134), .unset, .unset, .unset]) rfl k) ?_
    show OGo p e below s _ _ _ (T143.setTop (mkF m 94 #[.val (.int va), .val (.int vb), .val (.int vc), .val (.int vd), .val (.int vfl), .val (.int x5), .val (.int x6), .val (.int x7), .val (.int x8), .val (.int x9), .val (.ref b134), .unset, .unset, .unset] []))
    refine OGo.on (fun t k => XS.iloadN X143.here hx rfl (hb hby at_94) rfl k) ?_
    show OGo p e below s _ _ _ (T143.setTop (mkF m 95 #[.val (.int va), .val (.int vb), .val (.int vc), .val (.int vd), .val (.int vfl), .val (.int x5), .val (.int x6), .val (.int x7), .val (.int x8), .val (.int x9), .val (.ref b134), .unset, .unset, .unset] [(.int va)]))
    refine OGo.on (fun t k => XS.iload X143.here hx rfl (hb hby at_95) rfl k) ?_
    show OGo p e below s _ _ _ (T143.setTop (mkF m 97 #[.val (.int va), .val (.int vb), .val (.int vc), .val (.int vd), .val (.int vfl), .val (.int x5), .val (.int x6), .val (.int x7), .val (.int x8), .val (.int x9), .val (.ref b134), .unset, .unset, .unset] [(.int x5), (.int va)]))
    by_cases hc146 : va = x5
    · refine OGo.on (fun t k => XS.icmpNo X143.here hx rfl (hb hby at_97) rfl (teq hc146).2 k) ?_
      show OGo p e below s _ _ _ (T143.setTop (mkF m 100 #[.val (.int va), .val (.int vb), .val (.int vc), .val (.int vd), .val (.int vfl), .val (.int x5), .val (.int x6), .val (.int x7), .val (.int x8), .val (.int x9), .val (.ref b134), .unset, .unset, .unset] []))
      refine OGo.on (fun t k => XS.iconst X143.here hx rfl (hb hby at_100) k) ?_
      show OGo p e below s _ _ _ (T143.setTop (mkF m 101 #[.val (.int va), .val (.int vb), .val (.int vc), .val (.int vd), .val (.int vfl), .val (.int x5), .val (.int x6), .val (.int x7), .val (.int x8), .val (.int x9), .val (.ref b134), .unset, .unset, .unset] [(.int (1 : Int32))]))
      refine OGo.on (fun t k => XS.goto X143.here hx rfl (pc0 := 101) (pc' := 105) rfl (hb hby at_101) (by decide) (by decide) k) ?_
      show OGo p e below s _ _ _ (T143.setTop (mkF m 105 #[.val (.int va), .val (.int vb), .val (.int vc), .val (.int vd), .val (.int vfl), .val (.int x5), .val (.int x6), .val (.int x7), .val (.int x8), .val (.int x9), .val (.ref b134), .unset, .unset, .unset] [(.int (1 : Int32))]))
      refine OGo.on (fun t k => XS.istore X143.here hx rfl (hb hby at_105) rfl (l' := #[.val (.int va), .val (.int vb), .val (.int vc), .val (.int vd), .val (.int vfl), .val (.int x5), .val (.int x6), .val (.int x7), .val (.int x8), .val (.int x9), .val (.ref b134), .val (.int (1 : Int32)), .unset, .unset]) rfl k) ?_
      show OGo p e below s _ _ _ (T143.setTop (mkF m 107 #[.val (.int va), .val (.int vb), .val (.int vc), .val (.int vd), .val (.int vfl), .val (.int x5), .val (.int x6), .val (.int x7), .val (.int x8), .val (.int x9), .val (.ref b134), .val (.int (1 : Int32)), .unset, .unset] []))
      refine OGo.on (fun t k => XS.iload X143.here hx rfl (hb hby at_107) rfl k) ?_
      show OGo p e below s _ _ _ (T143.setTop (mkF m 109 #[.val (.int va), .val (.int vb), .val (.int vc), .val (.int vd), .val (.int vfl), .val (.int x5), .val (.int x6), .val (.int x7), .val (.int x8), .val (.int x9), .val (.ref b134), .val (.int (1 : Int32)), .unset, .unset] [(.int x6)]))
      refine OGo.on (fun t k => X143.ldcI hx hown (mvT hZ (hw _ (List.mem_of_getElem? (i := 26) rfl))) (g := (mkF m 109 #[.val (.int va), .val (.int vb), .val (.int vc), .val (.int vd), .val (.int vfl), .val (.int x5), .val (.int x6), .val (.int x7), .val (.int x8), .val (.int x9), .val (.ref b134), .val (.int (1 : Int32)), .unset, .unset] [(.int x6)])) rfl (hb hby at_109) k) ?_
      show OGo p e below s _ _ _ (T143.setTop (mkF m 111 #[.val (.int va), .val (.int vb), .val (.int vc), .val (.int vd), .val (.int vfl), .val (.int x5), .val (.int x6), .val (.int x7), .val (.int x8), .val (.int x9), .val (.ref b134), .val (.int (1 : Int32)), .unset, .unset] [(.int (-2147483648 : Int32)), (.int x6)]))
      by_cases hc147 : x6 = (-2147483648 : Int32)
      · refine OGo.on (fun t k => XS.icmpNo X143.here hx rfl (hb hby at_111) rfl (teq hc147).2 k) ?_
        show OGo p e below s _ _ _ (T143.setTop (mkF m 114 #[.val (.int va), .val (.int vb), .val (.int vc), .val (.int vd), .val (.int vfl), .val (.int x5), .val (.int x6), .val (.int x7), .val (.int x8), .val (.int x9), .val (.ref b134), .val (.int (1 : Int32)), .unset, .unset] []))
        refine OGo.on (fun t k => XS.iconst X143.here hx rfl (hb hby at_114) k) ?_
        show OGo p e below s _ _ _ (T143.setTop (mkF m 115 #[.val (.int va), .val (.int vb), .val (.int vc), .val (.int vd), .val (.int vfl), .val (.int x5), .val (.int x6), .val (.int x7), .val (.int x8), .val (.int x9), .val (.ref b134), .val (.int (1 : Int32)), .unset, .unset] [(.int (0 : Int32))]))
        refine OGo.on (fun t k => XS.goto X143.here hx rfl (pc0 := 115) (pc' := 119) rfl (hb hby at_115) (by decide) (by decide) k) ?_
        show OGo p e below s _ _ _ (T143.setTop (mkF m 119 #[.val (.int va), .val (.int vb), .val (.int vc), .val (.int vd), .val (.int vfl), .val (.int x5), .val (.int x6), .val (.int x7), .val (.int x8), .val (.int x9), .val (.ref b134), .val (.int (1 : Int32)), .unset, .unset] [(.int (0 : Int32))]))
        refine OGo.on (fun t k => XS.istore X143.here hx rfl (hb hby at_119) rfl (l' := #[.val (.int va), .val (.int vb), .val (.int vc), .val (.int vd), .val (.int vfl), .val (.int x5), .val (.int x6), .val (.int x7), .val (.int x8), .val (.int x9), .val (.ref b134), .val (.int (1 : Int32)), .val (.int (0 : Int32)), .unset]) rfl k) ?_
        show OGo p e below s _ _ _ (T143.setTop (mkF m 121 #[.val (.int va), .val (.int vb), .val (.int vc), .val (.int vd), .val (.int vfl), .val (.int x5), .val (.int x6), .val (.int x7), .val (.int x8), .val (.int x9), .val (.ref b134), .val (.int (1 : Int32)), .val (.int (0 : Int32)), .unset] []))
        refine OGo.on (fun t k => XS.iload X143.here hx rfl (hb hby at_121) rfl k) ?_
        show OGo p e below s _ _ _ (T143.setTop (mkF m 123 #[.val (.int va), .val (.int vb), .val (.int vc), .val (.int vd), .val (.int vfl), .val (.int x5), .val (.int x6), .val (.int x7), .val (.int x8), .val (.int x9), .val (.ref b134), .val (.int (1 : Int32)), .val (.int (0 : Int32)), .unset] [(.int x7)]))
        refine OGo.on (fun t k => X143.ldcI hx hown (mvT hZ (hw _ (List.mem_of_getElem? (i := 26) rfl))) (g := (mkF m 123 #[.val (.int va), .val (.int vb), .val (.int vc), .val (.int vd), .val (.int vfl), .val (.int x5), .val (.int x6), .val (.int x7), .val (.int x8), .val (.int x9), .val (.ref b134), .val (.int (1 : Int32)), .val (.int (0 : Int32)), .unset] [(.int x7)])) rfl (hb hby at_123) k) ?_
        show OGo p e below s _ _ _ (T143.setTop (mkF m 125 #[.val (.int va), .val (.int vb), .val (.int vc), .val (.int vd), .val (.int vfl), .val (.int x5), .val (.int x6), .val (.int x7), .val (.int x8), .val (.int x9), .val (.ref b134), .val (.int (1 : Int32)), .val (.int (0 : Int32)), .unset] [(.int (-2147483648 : Int32)), (.int x7)]))
        by_cases hc148 : x7 = (-2147483648 : Int32)
        · refine OGo.on (fun t k => XS.icmpNo X143.here hx rfl (hb hby at_125) rfl (teq hc148).2 k) ?_
          show OGo p e below s _ _ _ (T143.setTop (mkF m 128 #[.val (.int va), .val (.int vb), .val (.int vc), .val (.int vd), .val (.int vfl), .val (.int x5), .val (.int x6), .val (.int x7), .val (.int x8), .val (.int x9), .val (.ref b134), .val (.int (1 : Int32)), .val (.int (0 : Int32)), .unset] []))
          refine OGo.on (fun t k => XS.iconst X143.here hx rfl (hb hby at_128) k) ?_
          show OGo p e below s _ _ _ (T143.setTop (mkF m 129 #[.val (.int va), .val (.int vb), .val (.int vc), .val (.int vd), .val (.int vfl), .val (.int x5), .val (.int x6), .val (.int x7), .val (.int x8), .val (.int x9), .val (.ref b134), .val (.int (1 : Int32)), .val (.int (0 : Int32)), .unset] [(.int (0 : Int32))]))
          refine OGo.on (fun t k => XS.goto X143.here hx rfl (pc0 := 129) (pc' := 133) rfl (hb hby at_129) (by decide) (by decide) k) ?_
          show OGo p e below s _ _ _ (T143.setTop (mkF m 133 #[.val (.int va), .val (.int vb), .val (.int vc), .val (.int vd), .val (.int vfl), .val (.int x5), .val (.int x6), .val (.int x7), .val (.int x8), .val (.int x9), .val (.ref b134), .val (.int (1 : Int32)), .val (.int (0 : Int32)), .unset] [(.int (0 : Int32))]))
          refine OGo.on (fun t k => XS.istore X143.here hx rfl (hb hby at_133) rfl (l' := #[.val (.int va), .val (.int vb), .val (.int vc), .val (.int vd), .val (.int vfl), .val (.int x5), .val (.int x6), .val (.int x7), .val (.int x8), .val (.int x9), .val (.ref b134), .val (.int (1 : Int32)), .val (.int (0 : Int32)), .val (.int (0 : Int32))]) rfl k) ?_
          show OGo p e below s _ _ _ (T143.setTop (mkF m 135 #[.val (.int va), .val (.int vb), .val (.int vc), .val (.int vd), .val (.int vfl), .val (.int x5), .val (.int x6), .val (.int x7), .val (.int x8), .val (.int x9), .val (.ref b134), .val (.int (1 : Int32)), .val (.int (0 : Int32)), .val (.int (0 : Int32))] []))
          refine OGo.on (fun t k => XS.aload X143.here hx rfl (hb hby at_135) rfl rfl k) ?_
          show OGo p e below s _ _ _ (T143.setTop (mkF m 137 #[.val (.int va), .val (.int vb), .val (.int vc), .val (.int vd), .val (.int vfl), .val (.int x5), .val (.int x6), .val (.int x7), .val (.int x8), .val (.int x9), .val (.ref b134), .val (.int (1 : Int32)), .val (.int (0 : Int32)), .val (.int (0 : Int32))] [(.ref b134)]))
          obtain ⟨cq149, kq149, q149a, q149b, q149c⟩ := isOf hZ rfl f144
          obtain ⟨_, _, ⟨T149, L149, k149, n149⟩, -, X149, ⟨Lc149, hQ149, l149, y149, z149⟩, st149⟩ := X143.virtualBack hx (y := (⟨"com/example/metrilog/metrilog/TemporalMapping", "timeColumns", "()I"⟩ : MethodName)) (z := (⟨"com/example/metrilog/metrilog/TemporalMapping", "timeColumns", "()I"⟩ : MethodName)) hown (mvT hZ (hw _ (List.mem_of_getElem? (i := 27) rfl))) (mvT hZ (hw _ (List.mem_of_getElem? (i := 28) rfl))) (notFace_of_selects (args := #[]) (mvT hZ (hw _ (List.mem_of_getElem? (i := 30) rfl)))) (mvT hZ (hw _ (List.mem_of_getElem? (i := 30) rfl))) (mvT hZ (hw _ (List.mem_of_getElem? (i := 29) rfl))) (by decide) (backOf (W := 0) (own_mtc l Z a0 hw [] b134 va x5 x6 x7 T143.heap n0 Z145 Fw143_0 Fw143_1 Fw143_2 Fw143_3) hZ (hw _ (List.mem_of_getElem? (i := 31) rfl)) (hw _ (List.mem_of_getElem? (i := 2) rfl)) (by decide) (by decide)) q149a q149c (g := (mkF m 137 #[.val (.int va), .val (.int vb), .val (.int vc), .val (.int vd), .val (.int vfl), .val (.int x5), .val (.int x6), .val (.int x7), .val (.int x8), .val (.int x9), .val (.ref b134), .val (.int (1 : Int32)), .val (.int (0 : Int32)), .val (.int (0 : Int32))] [(.ref b134)])) rfl (by rw [hml]; rfl) (Steps.refl _) (argsL := []) (rest := []) (lenOf own_pd2 rfl) rfl (by show 2 * 0 + _ ≤ _; exact Nat.le_of_eq rfl) (hb hby at_137) (fun _ _ => ⟨rfl, rfl, (by decide : 1 + 1 ≤ _), (by decide : 6 + 2 ≤ _)⟩)
          dsimp only [Pt.U, Pt.locs, Pt.cells, Pt.slots] at X149 l149 y149 z149 st149 hQ149
          subst l149 y149 z149
          obtain ⟨rfl, N149q, K149⟩ := hQ149
          have N149 := Fr.app N143 N149q
          have f150 : Exa Z T149.heap b134 "com/example/metrilog/metrilog/TemporalMapping" := f144.keep K149
          have f151 : Fld Z T149.heap b134 "com/example/metrilog/metrilog/TemporalMapping" "startColumn" "I" (.int va) := Fw143_0.keep K149 own_nm0
          have f152 : Fld Z T149.heap b134 "com/example/metrilog/metrilog/TemporalMapping" "endColumn" "I" (.int x5) := Fw143_1.keep K149 own_nm0
          have f153 : Fld Z T149.heap b134 "com/example/metrilog/metrilog/TemporalMapping" "startClosedColumn" "I" (.int x6) := Fw143_2.keep K149 own_nm0
          have f154 : Fld Z T149.heap b134 "com/example/metrilog/metrilog/TemporalMapping" "endClosedColumn" "I" (.int x7) := Fw143_3.keep K149 own_nm0
          have f155 : Fld Z T149.heap b134 "com/example/metrilog/metrilog/TemporalMapping" "startClosed" "Z" (.int (nar .boolean x8)) := Fw143_4.keep K149 own_nm0
          have f156 : Fld Z T149.heap b134 "com/example/metrilog/metrilog/TemporalMapping" "endClosed" "Z" (.int (nar .boolean x9)) := Fw143_5.keep K149 own_nm0
          have Z157 : n0 ≤ T149.heap.size := Nat.le_trans Z145 K149.1
          refine OGo.on (fun t k => st149.trans k) ?_
          show OGo p e below s _ _ _ (T149.setTop (mkF m 140 #[.val (.int va), .val (.int vb), .val (.int vc), .val (.int vd), .val (.int vfl), .val (.int x5), .val (.int x6), .val (.int x7), .val (.int x8), .val (.int x9), .val (.ref b134), .val (.int (1 : Int32)), .val (.int (0 : Int32)), .val (.int (0 : Int32))] [(.int (own_tcs va x5 x6 x7))]))
          refine OGo.on (fun t k => XS.iload X149.here hx rfl (hb hby at_140) rfl k) ?_
          show OGo p e below s _ _ _ (T149.setTop (mkF m 142 #[.val (.int va), .val (.int vb), .val (.int vc), .val (.int vd), .val (.int vfl), .val (.int x5), .val (.int x6), .val (.int x7), .val (.int x8), .val (.int x9), .val (.ref b134), .val (.int (1 : Int32)), .val (.int (0 : Int32)), .val (.int (0 : Int32))] [(.int (1 : Int32)), (.int (own_tcs va x5 x6 x7))]))
          refine OGo.on (fun t k => XS.iload X149.here hx rfl (hb hby at_142) rfl k) ?_
          show OGo p e below s _ _ _ (T149.setTop (mkF m 144 #[.val (.int va), .val (.int vb), .val (.int vc), .val (.int vd), .val (.int vfl), .val (.int x5), .val (.int x6), .val (.int x7), .val (.int x8), .val (.int x9), .val (.ref b134), .val (.int (1 : Int32)), .val (.int (0 : Int32)), .val (.int (0 : Int32))] [(.int (0 : Int32)), (.int (1 : Int32)), (.int (own_tcs va x5 x6 x7))]))
          refine OGo.on (fun t k => XS.iadd X149.here hx rfl (hb hby at_144) rfl k) ?_
          show OGo p e below s _ _ _ (T149.setTop (mkF m 145 #[.val (.int va), .val (.int vb), .val (.int vc), .val (.int vd), .val (.int vfl), .val (.int x5), .val (.int x6), .val (.int x7), .val (.int x8), .val (.int x9), .val (.ref b134), .val (.int (1 : Int32)), .val (.int (0 : Int32)), .val (.int (0 : Int32))] [(.int (1 : Int32)), (.int (own_tcs va x5 x6 x7))]))
          refine OGo.on (fun t k => XS.iload X149.here hx rfl (hb hby at_145) rfl k) ?_
          show OGo p e below s _ _ _ (T149.setTop (mkF m 147 #[.val (.int va), .val (.int vb), .val (.int vc), .val (.int vd), .val (.int vfl), .val (.int x5), .val (.int x6), .val (.int x7), .val (.int x8), .val (.int x9), .val (.ref b134), .val (.int (1 : Int32)), .val (.int (0 : Int32)), .val (.int (0 : Int32))] [(.int (0 : Int32)), (.int (1 : Int32)), (.int (own_tcs va x5 x6 x7))]))
          refine OGo.on (fun t k => XS.iadd X149.here hx rfl (hb hby at_147) rfl k) ?_
          show OGo p e below s _ _ _ (T149.setTop (mkF m 148 #[.val (.int va), .val (.int vb), .val (.int vc), .val (.int vd), .val (.int vfl), .val (.int x5), .val (.int x6), .val (.int x7), .val (.int x8), .val (.int x9), .val (.ref b134), .val (.int (1 : Int32)), .val (.int (0 : Int32)), .val (.int (0 : Int32))] [(.int (1 : Int32)), (.int (own_tcs va x5 x6 x7))]))
          refine OGo.on (fun t k => XS.icmpNo X149.here hx rfl (hb hby at_148) rfl (teq (by unfold own_tcs; simp only [hc146, hc147, hc148, if_true, if_false] <;> decide)).2 k) ?_
          show OGo p e below s _ _ _ (T149.setTop (mkF m 151 #[.val (.int va), .val (.int vb), .val (.int vc), .val (.int vd), .val (.int vfl), .val (.int x5), .val (.int x6), .val (.int x7), .val (.int x8), .val (.int x9), .val (.ref b134), .val (.int (1 : Int32)), .val (.int (0 : Int32)), .val (.int (0 : Int32))] []))
          refine OGo.on (fun t k => XS.iconst X149.here hx rfl (hb hby at_151) k) ?_
          show OGo p e below s _ _ _ (T149.setTop (mkF m 152 #[.val (.int va), .val (.int vb), .val (.int vc), .val (.int vd), .val (.int vfl), .val (.int x5), .val (.int x6), .val (.int x7), .val (.int x8), .val (.int x9), .val (.ref b134), .val (.int (1 : Int32)), .val (.int (0 : Int32)), .val (.int (0 : Int32))] [(.int (1 : Int32))]))
          refine OGo.on (fun t k => XS.goto X149.here hx rfl (pc0 := 152) (pc' := 156) rfl (hb hby at_152) (by decide) (by decide) k) ?_
          show OGo p e below s _ _ _ (T149.setTop (mkF m 156 #[.val (.int va), .val (.int vb), .val (.int vc), .val (.int vd), .val (.int vfl), .val (.int x5), .val (.int x6), .val (.int x7), .val (.int x8), .val (.int x9), .val (.ref b134), .val (.int (1 : Int32)), .val (.int (0 : Int32)), .val (.int (0 : Int32))] [(.int (1 : Int32))]))
          exact OGo.retN X149 hx (t := .boolean) hret hlk (by simp) (hb hby at_156) ⟨rfl, N149⟩ (by decide) (by decide)
        · refine OGo.on (fun t k => XS.icmpYes X143.here hx rfl (pc0 := 125) (pc' := 132) rfl (hb hby at_125) rfl (feq hc148).2 (by decide) (by decide) k) ?_
          show OGo p e below s _ _ _ (T143.setTop (mkF m 132 #[.val (.int va), .val (.int vb), .val (.int vc), .val (.int vd), .val (.int vfl), .val (.int x5), .val (.int x6), .val (.int x7), .val (.int x8), .val (.int x9), .val (.ref b134), .val (.int (1 : Int32)), .val (.int (0 : Int32)), .unset] []))
          refine OGo.on (fun t k => XS.iconst X143.here hx rfl (hb hby at_132) k) ?_
          show OGo p e below s _ _ _ (T143.setTop (mkF m 133 #[.val (.int va), .val (.int vb), .val (.int vc), .val (.int vd), .val (.int vfl), .val (.int x5), .val (.int x6), .val (.int x7), .val (.int x8), .val (.int x9), .val (.ref b134), .val (.int (1 : Int32)), .val (.int (0 : Int32)), .unset] [(.int (1 : Int32))]))
          refine OGo.on (fun t k => XS.istore X143.here hx rfl (hb hby at_133) rfl (l' := #[.val (.int va), .val (.int vb), .val (.int vc), .val (.int vd), .val (.int vfl), .val (.int x5), .val (.int x6), .val (.int x7), .val (.int x8), .val (.int x9), .val (.ref b134), .val (.int (1 : Int32)), .val (.int (0 : Int32)), .val (.int (1 : Int32))]) rfl k) ?_
          show OGo p e below s _ _ _ (T143.setTop (mkF m 135 #[.val (.int va), .val (.int vb), .val (.int vc), .val (.int vd), .val (.int vfl), .val (.int x5), .val (.int x6), .val (.int x7), .val (.int x8), .val (.int x9), .val (.ref b134), .val (.int (1 : Int32)), .val (.int (0 : Int32)), .val (.int (1 : Int32))] []))
          refine OGo.on (fun t k => XS.aload X143.here hx rfl (hb hby at_135) rfl rfl k) ?_
          show OGo p e below s _ _ _ (T143.setTop (mkF m 137 #[.val (.int va), .val (.int vb), .val (.int vc), .val (.int vd), .val (.int vfl), .val (.int x5), .val (.int x6), .val (.int x7), .val (.int x8), .val (.int x9), .val (.ref b134), .val (.int (1 : Int32)), .val (.int (0 : Int32)), .val (.int (1 : Int32))] [(.ref b134)]))
          obtain ⟨cq158, kq158, q158a, q158b, q158c⟩ := isOf hZ rfl f144
          obtain ⟨_, _, ⟨T158, L158, k158, n158⟩, -, X158, ⟨Lc158, hQ158, l158, y158, z158⟩, st158⟩ := X143.virtualBack hx (y := (⟨"com/example/metrilog/metrilog/TemporalMapping", "timeColumns", "()I"⟩ : MethodName)) (z := (⟨"com/example/metrilog/metrilog/TemporalMapping", "timeColumns", "()I"⟩ : MethodName)) hown (mvT hZ (hw _ (List.mem_of_getElem? (i := 27) rfl))) (mvT hZ (hw _ (List.mem_of_getElem? (i := 28) rfl))) (notFace_of_selects (args := #[]) (mvT hZ (hw _ (List.mem_of_getElem? (i := 30) rfl)))) (mvT hZ (hw _ (List.mem_of_getElem? (i := 30) rfl))) (mvT hZ (hw _ (List.mem_of_getElem? (i := 29) rfl))) (by decide) (backOf (W := 0) (own_mtc l Z a0 hw [] b134 va x5 x6 x7 T143.heap n0 Z145 Fw143_0 Fw143_1 Fw143_2 Fw143_3) hZ (hw _ (List.mem_of_getElem? (i := 31) rfl)) (hw _ (List.mem_of_getElem? (i := 2) rfl)) (by decide) (by decide)) q158a q158c (g := (mkF m 137 #[.val (.int va), .val (.int vb), .val (.int vc), .val (.int vd), .val (.int vfl), .val (.int x5), .val (.int x6), .val (.int x7), .val (.int x8), .val (.int x9), .val (.ref b134), .val (.int (1 : Int32)), .val (.int (0 : Int32)), .val (.int (1 : Int32))] [(.ref b134)])) rfl (by rw [hml]; rfl) (Steps.refl _) (argsL := []) (rest := []) (lenOf own_pd2 rfl) rfl (by show 2 * 0 + _ ≤ _; exact Nat.le_of_eq rfl) (hb hby at_137) (fun _ _ => ⟨rfl, rfl, (by decide : 1 + 1 ≤ _), (by decide : 6 + 2 ≤ _)⟩)
          dsimp only [Pt.U, Pt.locs, Pt.cells, Pt.slots] at X158 l158 y158 z158 st158 hQ158
          subst l158 y158 z158
          obtain ⟨rfl, N158q, K158⟩ := hQ158
          have N158 := Fr.app N143 N158q
          have f159 : Exa Z T158.heap b134 "com/example/metrilog/metrilog/TemporalMapping" := f144.keep K158
          have f160 : Fld Z T158.heap b134 "com/example/metrilog/metrilog/TemporalMapping" "startColumn" "I" (.int va) := Fw143_0.keep K158 own_nm0
          have f161 : Fld Z T158.heap b134 "com/example/metrilog/metrilog/TemporalMapping" "endColumn" "I" (.int x5) := Fw143_1.keep K158 own_nm0
          have f162 : Fld Z T158.heap b134 "com/example/metrilog/metrilog/TemporalMapping" "startClosedColumn" "I" (.int x6) := Fw143_2.keep K158 own_nm0
          have f163 : Fld Z T158.heap b134 "com/example/metrilog/metrilog/TemporalMapping" "endClosedColumn" "I" (.int x7) := Fw143_3.keep K158 own_nm0
          have f164 : Fld Z T158.heap b134 "com/example/metrilog/metrilog/TemporalMapping" "startClosed" "Z" (.int (nar .boolean x8)) := Fw143_4.keep K158 own_nm0
          have f165 : Fld Z T158.heap b134 "com/example/metrilog/metrilog/TemporalMapping" "endClosed" "Z" (.int (nar .boolean x9)) := Fw143_5.keep K158 own_nm0
          have Z166 : n0 ≤ T158.heap.size := Nat.le_trans Z145 K158.1
          refine OGo.on (fun t k => st158.trans k) ?_
          show OGo p e below s _ _ _ (T158.setTop (mkF m 140 #[.val (.int va), .val (.int vb), .val (.int vc), .val (.int vd), .val (.int vfl), .val (.int x5), .val (.int x6), .val (.int x7), .val (.int x8), .val (.int x9), .val (.ref b134), .val (.int (1 : Int32)), .val (.int (0 : Int32)), .val (.int (1 : Int32))] [(.int (own_tcs va x5 x6 x7))]))
          refine OGo.on (fun t k => XS.iload X158.here hx rfl (hb hby at_140) rfl k) ?_
          show OGo p e below s _ _ _ (T158.setTop (mkF m 142 #[.val (.int va), .val (.int vb), .val (.int vc), .val (.int vd), .val (.int vfl), .val (.int x5), .val (.int x6), .val (.int x7), .val (.int x8), .val (.int x9), .val (.ref b134), .val (.int (1 : Int32)), .val (.int (0 : Int32)), .val (.int (1 : Int32))] [(.int (1 : Int32)), (.int (own_tcs va x5 x6 x7))]))
          refine OGo.on (fun t k => XS.iload X158.here hx rfl (hb hby at_142) rfl k) ?_
          show OGo p e below s _ _ _ (T158.setTop (mkF m 144 #[.val (.int va), .val (.int vb), .val (.int vc), .val (.int vd), .val (.int vfl), .val (.int x5), .val (.int x6), .val (.int x7), .val (.int x8), .val (.int x9), .val (.ref b134), .val (.int (1 : Int32)), .val (.int (0 : Int32)), .val (.int (1 : Int32))] [(.int (0 : Int32)), (.int (1 : Int32)), (.int (own_tcs va x5 x6 x7))]))
          refine OGo.on (fun t k => XS.iadd X158.here hx rfl (hb hby at_144) rfl k) ?_
          show OGo p e below s _ _ _ (T158.setTop (mkF m 145 #[.val (.int va), .val (.int vb), .val (.int vc), .val (.int vd), .val (.int vfl), .val (.int x5), .val (.int x6), .val (.int x7), .val (.int x8), .val (.int x9), .val (.ref b134), .val (.int (1 : Int32)), .val (.int (0 : Int32)), .val (.int (1 : Int32))] [(.int (1 : Int32)), (.int (own_tcs va x5 x6 x7))]))
          refine OGo.on (fun t k => XS.iload X158.here hx rfl (hb hby at_145) rfl k) ?_
          show OGo p e below s _ _ _ (T158.setTop (mkF m 147 #[.val (.int va), .val (.int vb), .val (.int vc), .val (.int vd), .val (.int vfl), .val (.int x5), .val (.int x6), .val (.int x7), .val (.int x8), .val (.int x9), .val (.ref b134), .val (.int (1 : Int32)), .val (.int (0 : Int32)), .val (.int (1 : Int32))] [(.int (1 : Int32)), (.int (1 : Int32)), (.int (own_tcs va x5 x6 x7))]))
          refine OGo.on (fun t k => XS.iadd X158.here hx rfl (hb hby at_147) rfl k) ?_
          show OGo p e below s _ _ _ (T158.setTop (mkF m 148 #[.val (.int va), .val (.int vb), .val (.int vc), .val (.int vd), .val (.int vfl), .val (.int x5), .val (.int x6), .val (.int x7), .val (.int x8), .val (.int x9), .val (.ref b134), .val (.int (1 : Int32)), .val (.int (0 : Int32)), .val (.int (1 : Int32))] [(.int (2 : Int32)), (.int (own_tcs va x5 x6 x7))]))
          refine OGo.on (fun t k => XS.icmpNo X158.here hx rfl (hb hby at_148) rfl (teq (by unfold own_tcs; simp only [hc146, hc147, hc148, if_true, if_false] <;> decide)).2 k) ?_
          show OGo p e below s _ _ _ (T158.setTop (mkF m 151 #[.val (.int va), .val (.int vb), .val (.int vc), .val (.int vd), .val (.int vfl), .val (.int x5), .val (.int x6), .val (.int x7), .val (.int x8), .val (.int x9), .val (.ref b134), .val (.int (1 : Int32)), .val (.int (0 : Int32)), .val (.int (1 : Int32))] []))
          refine OGo.on (fun t k => XS.iconst X158.here hx rfl (hb hby at_151) k) ?_
          show OGo p e below s _ _ _ (T158.setTop (mkF m 152 #[.val (.int va), .val (.int vb), .val (.int vc), .val (.int vd), .val (.int vfl), .val (.int x5), .val (.int x6), .val (.int x7), .val (.int x8), .val (.int x9), .val (.ref b134), .val (.int (1 : Int32)), .val (.int (0 : Int32)), .val (.int (1 : Int32))] [(.int (1 : Int32))]))
          refine OGo.on (fun t k => XS.goto X158.here hx rfl (pc0 := 152) (pc' := 156) rfl (hb hby at_152) (by decide) (by decide) k) ?_
          show OGo p e below s _ _ _ (T158.setTop (mkF m 156 #[.val (.int va), .val (.int vb), .val (.int vc), .val (.int vd), .val (.int vfl), .val (.int x5), .val (.int x6), .val (.int x7), .val (.int x8), .val (.int x9), .val (.ref b134), .val (.int (1 : Int32)), .val (.int (0 : Int32)), .val (.int (1 : Int32))] [(.int (1 : Int32))]))
          exact OGo.retN X158 hx (t := .boolean) hret hlk (by simp) (hb hby at_156) ⟨rfl, N158⟩ (by decide) (by decide)
      · refine OGo.on (fun t k => XS.icmpYes X143.here hx rfl (pc0 := 111) (pc' := 118) rfl (hb hby at_111) rfl (feq hc147).2 (by decide) (by decide) k) ?_
        show OGo p e below s _ _ _ (T143.setTop (mkF m 118 #[.val (.int va), .val (.int vb), .val (.int vc), .val (.int vd), .val (.int vfl), .val (.int x5), .val (.int x6), .val (.int x7), .val (.int x8), .val (.int x9), .val (.ref b134), .val (.int (1 : Int32)), .unset, .unset] []))
        refine OGo.on (fun t k => XS.iconst X143.here hx rfl (hb hby at_118) k) ?_
        show OGo p e below s _ _ _ (T143.setTop (mkF m 119 #[.val (.int va), .val (.int vb), .val (.int vc), .val (.int vd), .val (.int vfl), .val (.int x5), .val (.int x6), .val (.int x7), .val (.int x8), .val (.int x9), .val (.ref b134), .val (.int (1 : Int32)), .unset, .unset] [(.int (1 : Int32))]))
        refine OGo.on (fun t k => XS.istore X143.here hx rfl (hb hby at_119) rfl (l' := #[.val (.int va), .val (.int vb), .val (.int vc), .val (.int vd), .val (.int vfl), .val (.int x5), .val (.int x6), .val (.int x7), .val (.int x8), .val (.int x9), .val (.ref b134), .val (.int (1 : Int32)), .val (.int (1 : Int32)), .unset]) rfl k) ?_
        show OGo p e below s _ _ _ (T143.setTop (mkF m 121 #[.val (.int va), .val (.int vb), .val (.int vc), .val (.int vd), .val (.int vfl), .val (.int x5), .val (.int x6), .val (.int x7), .val (.int x8), .val (.int x9), .val (.ref b134), .val (.int (1 : Int32)), .val (.int (1 : Int32)), .unset] []))
        refine OGo.on (fun t k => XS.iload X143.here hx rfl (hb hby at_121) rfl k) ?_
        show OGo p e below s _ _ _ (T143.setTop (mkF m 123 #[.val (.int va), .val (.int vb), .val (.int vc), .val (.int vd), .val (.int vfl), .val (.int x5), .val (.int x6), .val (.int x7), .val (.int x8), .val (.int x9), .val (.ref b134), .val (.int (1 : Int32)), .val (.int (1 : Int32)), .unset] [(.int x7)]))
        refine OGo.on (fun t k => X143.ldcI hx hown (mvT hZ (hw _ (List.mem_of_getElem? (i := 26) rfl))) (g := (mkF m 123 #[.val (.int va), .val (.int vb), .val (.int vc), .val (.int vd), .val (.int vfl), .val (.int x5), .val (.int x6), .val (.int x7), .val (.int x8), .val (.int x9), .val (.ref b134), .val (.int (1 : Int32)), .val (.int (1 : Int32)), .unset] [(.int x7)])) rfl (hb hby at_123) k) ?_
        show OGo p e below s _ _ _ (T143.setTop (mkF m 125 #[.val (.int va), .val (.int vb), .val (.int vc), .val (.int vd), .val (.int vfl), .val (.int x5), .val (.int x6), .val (.int x7), .val (.int x8), .val (.int x9), .val (.ref b134), .val (.int (1 : Int32)), .val (.int (1 : Int32)), .unset] [(.int (-2147483648 : Int32)), (.int x7)]))
        by_cases hc167 : x7 = (-2147483648 : Int32)
        · refine OGo.on (fun t k => XS.icmpNo X143.here hx rfl (hb hby at_125) rfl (teq hc167).2 k) ?_
          show OGo p e below s _ _ _ (T143.setTop (mkF m 128 #[.val (.int va), .val (.int vb), .val (.int vc), .val (.int vd), .val (.int vfl), .val (.int x5), .val (.int x6), .val (.int x7), .val (.int x8), .val (.int x9), .val (.ref b134), .val (.int (1 : Int32)), .val (.int (1 : Int32)), .unset] []))
          refine OGo.on (fun t k => XS.iconst X143.here hx rfl (hb hby at_128) k) ?_
          show OGo p e below s _ _ _ (T143.setTop (mkF m 129 #[.val (.int va), .val (.int vb), .val (.int vc), .val (.int vd), .val (.int vfl), .val (.int x5), .val (.int x6), .val (.int x7), .val (.int x8), .val (.int x9), .val (.ref b134), .val (.int (1 : Int32)), .val (.int (1 : Int32)), .unset] [(.int (0 : Int32))]))
          refine OGo.on (fun t k => XS.goto X143.here hx rfl (pc0 := 129) (pc' := 133) rfl (hb hby at_129) (by decide) (by decide) k) ?_
          show OGo p e below s _ _ _ (T143.setTop (mkF m 133 #[.val (.int va), .val (.int vb), .val (.int vc), .val (.int vd), .val (.int vfl), .val (.int x5), .val (.int x6), .val (.int x7), .val (.int x8), .val (.int x9), .val (.ref b134), .val (.int (1 : Int32)), .val (.int (1 : Int32)), .unset] [(.int (0 : Int32))]))
          refine OGo.on (fun t k => XS.istore X143.here hx rfl (hb hby at_133) rfl (l' := #[.val (.int va), .val (.int vb), .val (.int vc), .val (.int vd), .val (.int vfl), .val (.int x5), .val (.int x6), .val (.int x7), .val (.int x8), .val (.int x9), .val (.ref b134), .val (.int (1 : Int32)), .val (.int (1 : Int32)), .val (.int (0 : Int32))]) rfl k) ?_
          show OGo p e below s _ _ _ (T143.setTop (mkF m 135 #[.val (.int va), .val (.int vb), .val (.int vc), .val (.int vd), .val (.int vfl), .val (.int x5), .val (.int x6), .val (.int x7), .val (.int x8), .val (.int x9), .val (.ref b134), .val (.int (1 : Int32)), .val (.int (1 : Int32)), .val (.int (0 : Int32))] []))
          refine OGo.on (fun t k => XS.aload X143.here hx rfl (hb hby at_135) rfl rfl k) ?_
          show OGo p e below s _ _ _ (T143.setTop (mkF m 137 #[.val (.int va), .val (.int vb), .val (.int vc), .val (.int vd), .val (.int vfl), .val (.int x5), .val (.int x6), .val (.int x7), .val (.int x8), .val (.int x9), .val (.ref b134), .val (.int (1 : Int32)), .val (.int (1 : Int32)), .val (.int (0 : Int32))] [(.ref b134)]))
          obtain ⟨cq168, kq168, q168a, q168b, q168c⟩ := isOf hZ rfl f144
          obtain ⟨_, _, ⟨T168, L168, k168, n168⟩, -, X168, ⟨Lc168, hQ168, l168, y168, z168⟩, st168⟩ := X143.virtualBack hx (y := (⟨"com/example/metrilog/metrilog/TemporalMapping", "timeColumns", "()I"⟩ : MethodName)) (z := (⟨"com/example/metrilog/metrilog/TemporalMapping", "timeColumns", "()I"⟩ : MethodName)) hown (mvT hZ (hw _ (List.mem_of_getElem? (i := 27) rfl))) (mvT hZ (hw _ (List.mem_of_getElem? (i := 28) rfl))) (notFace_of_selects (args := #[]) (mvT hZ (hw _ (List.mem_of_getElem? (i := 30) rfl)))) (mvT hZ (hw _ (List.mem_of_getElem? (i := 30) rfl))) (mvT hZ (hw _ (List.mem_of_getElem? (i := 29) rfl))) (by decide) (backOf (W := 0) (own_mtc l Z a0 hw [] b134 va x5 x6 x7 T143.heap n0 Z145 Fw143_0 Fw143_1 Fw143_2 Fw143_3) hZ (hw _ (List.mem_of_getElem? (i := 31) rfl)) (hw _ (List.mem_of_getElem? (i := 2) rfl)) (by decide) (by decide)) q168a q168c (g := (mkF m 137 #[.val (.int va), .val (.int vb), .val (.int vc), .val (.int vd), .val (.int vfl), .val (.int x5), .val (.int x6), .val (.int x7), .val (.int x8), .val (.int x9), .val (.ref b134), .val (.int (1 : Int32)), .val (.int (1 : Int32)), .val (.int (0 : Int32))] [(.ref b134)])) rfl (by rw [hml]; rfl) (Steps.refl _) (argsL := []) (rest := []) (lenOf own_pd2 rfl) rfl (by show 2 * 0 + _ ≤ _; exact Nat.le_of_eq rfl) (hb hby at_137) (fun _ _ => ⟨rfl, rfl, (by decide : 1 + 1 ≤ _), (by decide : 6 + 2 ≤ _)⟩)
          dsimp only [Pt.U, Pt.locs, Pt.cells, Pt.slots] at X168 l168 y168 z168 st168 hQ168
          subst l168 y168 z168
          obtain ⟨rfl, N168q, K168⟩ := hQ168
          have N168 := Fr.app N143 N168q
          have f169 : Exa Z T168.heap b134 "com/example/metrilog/metrilog/TemporalMapping" := f144.keep K168
          have f170 : Fld Z T168.heap b134 "com/example/metrilog/metrilog/TemporalMapping" "startColumn" "I" (.int va) := Fw143_0.keep K168 own_nm0
          have f171 : Fld Z T168.heap b134 "com/example/metrilog/metrilog/TemporalMapping" "endColumn" "I" (.int x5) := Fw143_1.keep K168 own_nm0
          have f172 : Fld Z T168.heap b134 "com/example/metrilog/metrilog/TemporalMapping" "startClosedColumn" "I" (.int x6) := Fw143_2.keep K168 own_nm0
          have f173 : Fld Z T168.heap b134 "com/example/metrilog/metrilog/TemporalMapping" "endClosedColumn" "I" (.int x7) := Fw143_3.keep K168 own_nm0
          have f174 : Fld Z T168.heap b134 "com/example/metrilog/metrilog/TemporalMapping" "startClosed" "Z" (.int (nar .boolean x8)) := Fw143_4.keep K168 own_nm0
          have f175 : Fld Z T168.heap b134 "com/example/metrilog/metrilog/TemporalMapping" "endClosed" "Z" (.int (nar .boolean x9)) := Fw143_5.keep K168 own_nm0
          have Z176 : n0 ≤ T168.heap.size := Nat.le_trans Z145 K168.1
          refine OGo.on (fun t k => st168.trans k) ?_
          show OGo p e below s _ _ _ (T168.setTop (mkF m 140 #[.val (.int va), .val (.int vb), .val (.int vc), .val (.int vd), .val (.int vfl), .val (.int x5), .val (.int x6), .val (.int x7), .val (.int x8), .val (.int x9), .val (.ref b134), .val (.int (1 : Int32)), .val (.int (1 : Int32)), .val (.int (0 : Int32))] [(.int (own_tcs va x5 x6 x7))]))
          refine OGo.on (fun t k => XS.iload X168.here hx rfl (hb hby at_140) rfl k) ?_
          show OGo p e below s _ _ _ (T168.setTop (mkF m 142 #[.val (.int va), .val (.int vb), .val (.int vc), .val (.int vd), .val (.int vfl), .val (.int x5), .val (.int x6), .val (.int x7), .val (.int x8), .val (.int x9), .val (.ref b134), .val (.int (1 : Int32)), .val (.int (1 : Int32)), .val (.int (0 : Int32))] [(.int (1 : Int32)), (.int (own_tcs va x5 x6 x7))]))
          refine OGo.on (fun t k => XS.iload X168.here hx rfl (hb hby at_142) rfl k) ?_
          show OGo p e below s _ _ _ (T168.setTop (mkF m 144 #[.val (.int va), .val (.int vb), .val (.int vc), .val (.int vd), .val (.int vfl), .val (.int x5), .val (.int x6), .val (.int x7), .val (.int x8), .val (.int x9), .val (.ref b134), .val (.int (1 : Int32)), .val (.int (1 : Int32)), .val (.int (0 : Int32))] [(.int (1 : Int32)), (.int (1 : Int32)), (.int (own_tcs va x5 x6 x7))]))
          refine OGo.on (fun t k => XS.iadd X168.here hx rfl (hb hby at_144) rfl k) ?_
          show OGo p e below s _ _ _ (T168.setTop (mkF m 145 #[.val (.int va), .val (.int vb), .val (.int vc), .val (.int vd), .val (.int vfl), .val (.int x5), .val (.int x6), .val (.int x7), .val (.int x8), .val (.int x9), .val (.ref b134), .val (.int (1 : Int32)), .val (.int (1 : Int32)), .val (.int (0 : Int32))] [(.int (2 : Int32)), (.int (own_tcs va x5 x6 x7))]))
          refine OGo.on (fun t k => XS.iload X168.here hx rfl (hb hby at_145) rfl k) ?_
          show OGo p e below s _ _ _ (T168.setTop (mkF m 147 #[.val (.int va), .val (.int vb), .val (.int vc), .val (.int vd), .val (.int vfl), .val (.int x5), .val (.int x6), .val (.int x7), .val (.int x8), .val (.int x9), .val (.ref b134), .val (.int (1 : Int32)), .val (.int (1 : Int32)), .val (.int (0 : Int32))] [(.int (0 : Int32)), (.int (2 : Int32)), (.int (own_tcs va x5 x6 x7))]))
          refine OGo.on (fun t k => XS.iadd X168.here hx rfl (hb hby at_147) rfl k) ?_
          show OGo p e below s _ _ _ (T168.setTop (mkF m 148 #[.val (.int va), .val (.int vb), .val (.int vc), .val (.int vd), .val (.int vfl), .val (.int x5), .val (.int x6), .val (.int x7), .val (.int x8), .val (.int x9), .val (.ref b134), .val (.int (1 : Int32)), .val (.int (1 : Int32)), .val (.int (0 : Int32))] [(.int (2 : Int32)), (.int (own_tcs va x5 x6 x7))]))
          refine OGo.on (fun t k => XS.icmpNo X168.here hx rfl (hb hby at_148) rfl (teq (by unfold own_tcs; simp only [hc146, hc147, hc167, if_true, if_false] <;> decide)).2 k) ?_
          show OGo p e below s _ _ _ (T168.setTop (mkF m 151 #[.val (.int va), .val (.int vb), .val (.int vc), .val (.int vd), .val (.int vfl), .val (.int x5), .val (.int x6), .val (.int x7), .val (.int x8), .val (.int x9), .val (.ref b134), .val (.int (1 : Int32)), .val (.int (1 : Int32)), .val (.int (0 : Int32))] []))
          refine OGo.on (fun t k => XS.iconst X168.here hx rfl (hb hby at_151) k) ?_
          show OGo p e below s _ _ _ (T168.setTop (mkF m 152 #[.val (.int va), .val (.int vb), .val (.int vc), .val (.int vd), .val (.int vfl), .val (.int x5), .val (.int x6), .val (.int x7), .val (.int x8), .val (.int x9), .val (.ref b134), .val (.int (1 : Int32)), .val (.int (1 : Int32)), .val (.int (0 : Int32))] [(.int (1 : Int32))]))
          refine OGo.on (fun t k => XS.goto X168.here hx rfl (pc0 := 152) (pc' := 156) rfl (hb hby at_152) (by decide) (by decide) k) ?_
          show OGo p e below s _ _ _ (T168.setTop (mkF m 156 #[.val (.int va), .val (.int vb), .val (.int vc), .val (.int vd), .val (.int vfl), .val (.int x5), .val (.int x6), .val (.int x7), .val (.int x8), .val (.int x9), .val (.ref b134), .val (.int (1 : Int32)), .val (.int (1 : Int32)), .val (.int (0 : Int32))] [(.int (1 : Int32))]))
          exact OGo.retN X168 hx (t := .boolean) hret hlk (by simp) (hb hby at_156) ⟨rfl, N168⟩ (by decide) (by decide)
        · refine OGo.on (fun t k => XS.icmpYes X143.here hx rfl (pc0 := 125) (pc' := 132) rfl (hb hby at_125) rfl (feq hc167).2 (by decide) (by decide) k) ?_
          show OGo p e below s _ _ _ (T143.setTop (mkF m 132 #[.val (.int va), .val (.int vb), .val (.int vc), .val (.int vd), .val (.int vfl), .val (.int x5), .val (.int x6), .val (.int x7), .val (.int x8), .val (.int x9), .val (.ref b134), .val (.int (1 : Int32)), .val (.int (1 : Int32)), .unset] []))
          refine OGo.on (fun t k => XS.iconst X143.here hx rfl (hb hby at_132) k) ?_
          show OGo p e below s _ _ _ (T143.setTop (mkF m 133 #[.val (.int va), .val (.int vb), .val (.int vc), .val (.int vd), .val (.int vfl), .val (.int x5), .val (.int x6), .val (.int x7), .val (.int x8), .val (.int x9), .val (.ref b134), .val (.int (1 : Int32)), .val (.int (1 : Int32)), .unset] [(.int (1 : Int32))]))
          refine OGo.on (fun t k => XS.istore X143.here hx rfl (hb hby at_133) rfl (l' := #[.val (.int va), .val (.int vb), .val (.int vc), .val (.int vd), .val (.int vfl), .val (.int x5), .val (.int x6), .val (.int x7), .val (.int x8), .val (.int x9), .val (.ref b134), .val (.int (1 : Int32)), .val (.int (1 : Int32)), .val (.int (1 : Int32))]) rfl k) ?_
          show OGo p e below s _ _ _ (T143.setTop (mkF m 135 #[.val (.int va), .val (.int vb), .val (.int vc), .val (.int vd), .val (.int vfl), .val (.int x5), .val (.int x6), .val (.int x7), .val (.int x8), .val (.int x9), .val (.ref b134), .val (.int (1 : Int32)), .val (.int (1 : Int32)), .val (.int (1 : Int32))] []))
          refine OGo.on (fun t k => XS.aload X143.here hx rfl (hb hby at_135) rfl rfl k) ?_
          show OGo p e below s _ _ _ (T143.setTop (mkF m 137 #[.val (.int va), .val (.int vb), .val (.int vc), .val (.int vd), .val (.int vfl), .val (.int x5), .val (.int x6), .val (.int x7), .val (.int x8), .val (.int x9), .val (.ref b134), .val (.int (1 : Int32)), .val (.int (1 : Int32)), .val (.int (1 : Int32))] [(.ref b134)]))
          obtain ⟨cq177, kq177, q177a, q177b, q177c⟩ := isOf hZ rfl f144
          obtain ⟨_, _, ⟨T177, L177, k177, n177⟩, -, X177, ⟨Lc177, hQ177, l177, y177, z177⟩, st177⟩ := X143.virtualBack hx (y := (⟨"com/example/metrilog/metrilog/TemporalMapping", "timeColumns", "()I"⟩ : MethodName)) (z := (⟨"com/example/metrilog/metrilog/TemporalMapping", "timeColumns", "()I"⟩ : MethodName)) hown (mvT hZ (hw _ (List.mem_of_getElem? (i := 27) rfl))) (mvT hZ (hw _ (List.mem_of_getElem? (i := 28) rfl))) (notFace_of_selects (args := #[]) (mvT hZ (hw _ (List.mem_of_getElem? (i := 30) rfl)))) (mvT hZ (hw _ (List.mem_of_getElem? (i := 30) rfl))) (mvT hZ (hw _ (List.mem_of_getElem? (i := 29) rfl))) (by decide) (backOf (W := 0) (own_mtc l Z a0 hw [] b134 va x5 x6 x7 T143.heap n0 Z145 Fw143_0 Fw143_1 Fw143_2 Fw143_3) hZ (hw _ (List.mem_of_getElem? (i := 31) rfl)) (hw _ (List.mem_of_getElem? (i := 2) rfl)) (by decide) (by decide)) q177a q177c (g := (mkF m 137 #[.val (.int va), .val (.int vb), .val (.int vc), .val (.int vd), .val (.int vfl), .val (.int x5), .val (.int x6), .val (.int x7), .val (.int x8), .val (.int x9), .val (.ref b134), .val (.int (1 : Int32)), .val (.int (1 : Int32)), .val (.int (1 : Int32))] [(.ref b134)])) rfl (by rw [hml]; rfl) (Steps.refl _) (argsL := []) (rest := []) (lenOf own_pd2 rfl) rfl (by show 2 * 0 + _ ≤ _; exact Nat.le_of_eq rfl) (hb hby at_137) (fun _ _ => ⟨rfl, rfl, (by decide : 1 + 1 ≤ _), (by decide : 6 + 2 ≤ _)⟩)
          dsimp only [Pt.U, Pt.locs, Pt.cells, Pt.slots] at X177 l177 y177 z177 st177 hQ177
          subst l177 y177 z177
          obtain ⟨rfl, N177q, K177⟩ := hQ177
          have N177 := Fr.app N143 N177q
          have f178 : Exa Z T177.heap b134 "com/example/metrilog/metrilog/TemporalMapping" := f144.keep K177
          have f179 : Fld Z T177.heap b134 "com/example/metrilog/metrilog/TemporalMapping" "startColumn" "I" (.int va) := Fw143_0.keep K177 own_nm0
          have f180 : Fld Z T177.heap b134 "com/example/metrilog/metrilog/TemporalMapping" "endColumn" "I" (.int x5) := Fw143_1.keep K177 own_nm0
          have f181 : Fld Z T177.heap b134 "com/example/metrilog/metrilog/TemporalMapping" "startClosedColumn" "I" (.int x6) := Fw143_2.keep K177 own_nm0
          have f182 : Fld Z T177.heap b134 "com/example/metrilog/metrilog/TemporalMapping" "endClosedColumn" "I" (.int x7) := Fw143_3.keep K177 own_nm0
          have f183 : Fld Z T177.heap b134 "com/example/metrilog/metrilog/TemporalMapping" "startClosed" "Z" (.int (nar .boolean x8)) := Fw143_4.keep K177 own_nm0
          have f184 : Fld Z T177.heap b134 "com/example/metrilog/metrilog/TemporalMapping" "endClosed" "Z" (.int (nar .boolean x9)) := Fw143_5.keep K177 own_nm0
          have Z185 : n0 ≤ T177.heap.size := Nat.le_trans Z145 K177.1
          refine OGo.on (fun t k => st177.trans k) ?_
          show OGo p e below s _ _ _ (T177.setTop (mkF m 140 #[.val (.int va), .val (.int vb), .val (.int vc), .val (.int vd), .val (.int vfl), .val (.int x5), .val (.int x6), .val (.int x7), .val (.int x8), .val (.int x9), .val (.ref b134), .val (.int (1 : Int32)), .val (.int (1 : Int32)), .val (.int (1 : Int32))] [(.int (own_tcs va x5 x6 x7))]))
          refine OGo.on (fun t k => XS.iload X177.here hx rfl (hb hby at_140) rfl k) ?_
          show OGo p e below s _ _ _ (T177.setTop (mkF m 142 #[.val (.int va), .val (.int vb), .val (.int vc), .val (.int vd), .val (.int vfl), .val (.int x5), .val (.int x6), .val (.int x7), .val (.int x8), .val (.int x9), .val (.ref b134), .val (.int (1 : Int32)), .val (.int (1 : Int32)), .val (.int (1 : Int32))] [(.int (1 : Int32)), (.int (own_tcs va x5 x6 x7))]))
          refine OGo.on (fun t k => XS.iload X177.here hx rfl (hb hby at_142) rfl k) ?_
          show OGo p e below s _ _ _ (T177.setTop (mkF m 144 #[.val (.int va), .val (.int vb), .val (.int vc), .val (.int vd), .val (.int vfl), .val (.int x5), .val (.int x6), .val (.int x7), .val (.int x8), .val (.int x9), .val (.ref b134), .val (.int (1 : Int32)), .val (.int (1 : Int32)), .val (.int (1 : Int32))] [(.int (1 : Int32)), (.int (1 : Int32)), (.int (own_tcs va x5 x6 x7))]))
          refine OGo.on (fun t k => XS.iadd X177.here hx rfl (hb hby at_144) rfl k) ?_
          show OGo p e below s _ _ _ (T177.setTop (mkF m 145 #[.val (.int va), .val (.int vb), .val (.int vc), .val (.int vd), .val (.int vfl), .val (.int x5), .val (.int x6), .val (.int x7), .val (.int x8), .val (.int x9), .val (.ref b134), .val (.int (1 : Int32)), .val (.int (1 : Int32)), .val (.int (1 : Int32))] [(.int (2 : Int32)), (.int (own_tcs va x5 x6 x7))]))
          refine OGo.on (fun t k => XS.iload X177.here hx rfl (hb hby at_145) rfl k) ?_
          show OGo p e below s _ _ _ (T177.setTop (mkF m 147 #[.val (.int va), .val (.int vb), .val (.int vc), .val (.int vd), .val (.int vfl), .val (.int x5), .val (.int x6), .val (.int x7), .val (.int x8), .val (.int x9), .val (.ref b134), .val (.int (1 : Int32)), .val (.int (1 : Int32)), .val (.int (1 : Int32))] [(.int (1 : Int32)), (.int (2 : Int32)), (.int (own_tcs va x5 x6 x7))]))
          refine OGo.on (fun t k => XS.iadd X177.here hx rfl (hb hby at_147) rfl k) ?_
          show OGo p e below s _ _ _ (T177.setTop (mkF m 148 #[.val (.int va), .val (.int vb), .val (.int vc), .val (.int vd), .val (.int vfl), .val (.int x5), .val (.int x6), .val (.int x7), .val (.int x8), .val (.int x9), .val (.ref b134), .val (.int (1 : Int32)), .val (.int (1 : Int32)), .val (.int (1 : Int32))] [(.int (3 : Int32)), (.int (own_tcs va x5 x6 x7))]))
          refine OGo.on (fun t k => XS.icmpNo X177.here hx rfl (hb hby at_148) rfl (teq (by unfold own_tcs; simp only [hc146, hc147, hc167, if_true, if_false] <;> decide)).2 k) ?_
          show OGo p e below s _ _ _ (T177.setTop (mkF m 151 #[.val (.int va), .val (.int vb), .val (.int vc), .val (.int vd), .val (.int vfl), .val (.int x5), .val (.int x6), .val (.int x7), .val (.int x8), .val (.int x9), .val (.ref b134), .val (.int (1 : Int32)), .val (.int (1 : Int32)), .val (.int (1 : Int32))] []))
          refine OGo.on (fun t k => XS.iconst X177.here hx rfl (hb hby at_151) k) ?_
          show OGo p e below s _ _ _ (T177.setTop (mkF m 152 #[.val (.int va), .val (.int vb), .val (.int vc), .val (.int vd), .val (.int vfl), .val (.int x5), .val (.int x6), .val (.int x7), .val (.int x8), .val (.int x9), .val (.ref b134), .val (.int (1 : Int32)), .val (.int (1 : Int32)), .val (.int (1 : Int32))] [(.int (1 : Int32))]))
          refine OGo.on (fun t k => XS.goto X177.here hx rfl (pc0 := 152) (pc' := 156) rfl (hb hby at_152) (by decide) (by decide) k) ?_
          show OGo p e below s _ _ _ (T177.setTop (mkF m 156 #[.val (.int va), .val (.int vb), .val (.int vc), .val (.int vd), .val (.int vfl), .val (.int x5), .val (.int x6), .val (.int x7), .val (.int x8), .val (.int x9), .val (.ref b134), .val (.int (1 : Int32)), .val (.int (1 : Int32)), .val (.int (1 : Int32))] [(.int (1 : Int32))]))
          exact OGo.retN X177 hx (t := .boolean) hret hlk (by simp) (hb hby at_156) ⟨rfl, N177⟩ (by decide) (by decide)
    · refine OGo.on (fun t k => XS.icmpYes X143.here hx rfl (pc0 := 97) (pc' := 104) rfl (hb hby at_97) rfl (feq hc146).2 (by decide) (by decide) k) ?_
      show OGo p e below s _ _ _ (T143.setTop (mkF m 104 #[.val (.int va), .val (.int vb), .val (.int vc), .val (.int vd), .val (.int vfl), .val (.int x5), .val (.int x6), .val (.int x7), .val (.int x8), .val (.int x9), .val (.ref b134), .unset, .unset, .unset] []))
      refine OGo.on (fun t k => XS.iconst X143.here hx rfl (hb hby at_104) k) ?_
      show OGo p e below s _ _ _ (T143.setTop (mkF m 105 #[.val (.int va), .val (.int vb), .val (.int vc), .val (.int vd), .val (.int vfl), .val (.int x5), .val (.int x6), .val (.int x7), .val (.int x8), .val (.int x9), .val (.ref b134), .unset, .unset, .unset] [(.int (2 : Int32))]))
      refine OGo.on (fun t k => XS.istore X143.here hx rfl (hb hby at_105) rfl (l' := #[.val (.int va), .val (.int vb), .val (.int vc), .val (.int vd), .val (.int vfl), .val (.int x5), .val (.int x6), .val (.int x7), .val (.int x8), .val (.int x9), .val (.ref b134), .val (.int (2 : Int32)), .unset, .unset]) rfl k) ?_
      show OGo p e below s _ _ _ (T143.setTop (mkF m 107 #[.val (.int va), .val (.int vb), .val (.int vc), .val (.int vd), .val (.int vfl), .val (.int x5), .val (.int x6), .val (.int x7), .val (.int x8), .val (.int x9), .val (.ref b134), .val (.int (2 : Int32)), .unset, .unset] []))
      refine OGo.on (fun t k => XS.iload X143.here hx rfl (hb hby at_107) rfl k) ?_
      show OGo p e below s _ _ _ (T143.setTop (mkF m 109 #[.val (.int va), .val (.int vb), .val (.int vc), .val (.int vd), .val (.int vfl), .val (.int x5), .val (.int x6), .val (.int x7), .val (.int x8), .val (.int x9), .val (.ref b134), .val (.int (2 : Int32)), .unset, .unset] [(.int x6)]))
      refine OGo.on (fun t k => X143.ldcI hx hown (mvT hZ (hw _ (List.mem_of_getElem? (i := 26) rfl))) (g := (mkF m 109 #[.val (.int va), .val (.int vb), .val (.int vc), .val (.int vd), .val (.int vfl), .val (.int x5), .val (.int x6), .val (.int x7), .val (.int x8), .val (.int x9), .val (.ref b134), .val (.int (2 : Int32)), .unset, .unset] [(.int x6)])) rfl (hb hby at_109) k) ?_
      show OGo p e below s _ _ _ (T143.setTop (mkF m 111 #[.val (.int va), .val (.int vb), .val (.int vc), .val (.int vd), .val (.int vfl), .val (.int x5), .val (.int x6), .val (.int x7), .val (.int x8), .val (.int x9), .val (.ref b134), .val (.int (2 : Int32)), .unset, .unset] [(.int (-2147483648 : Int32)), (.int x6)]))
      by_cases hc186 : x6 = (-2147483648 : Int32)
      · refine OGo.on (fun t k => XS.icmpNo X143.here hx rfl (hb hby at_111) rfl (teq hc186).2 k) ?_
        show OGo p e below s _ _ _ (T143.setTop (mkF m 114 #[.val (.int va), .val (.int vb), .val (.int vc), .val (.int vd), .val (.int vfl), .val (.int x5), .val (.int x6), .val (.int x7), .val (.int x8), .val (.int x9), .val (.ref b134), .val (.int (2 : Int32)), .unset, .unset] []))
        refine OGo.on (fun t k => XS.iconst X143.here hx rfl (hb hby at_114) k) ?_
        show OGo p e below s _ _ _ (T143.setTop (mkF m 115 #[.val (.int va), .val (.int vb), .val (.int vc), .val (.int vd), .val (.int vfl), .val (.int x5), .val (.int x6), .val (.int x7), .val (.int x8), .val (.int x9), .val (.ref b134), .val (.int (2 : Int32)), .unset, .unset] [(.int (0 : Int32))]))
        refine OGo.on (fun t k => XS.goto X143.here hx rfl (pc0 := 115) (pc' := 119) rfl (hb hby at_115) (by decide) (by decide) k) ?_
        show OGo p e below s _ _ _ (T143.setTop (mkF m 119 #[.val (.int va), .val (.int vb), .val (.int vc), .val (.int vd), .val (.int vfl), .val (.int x5), .val (.int x6), .val (.int x7), .val (.int x8), .val (.int x9), .val (.ref b134), .val (.int (2 : Int32)), .unset, .unset] [(.int (0 : Int32))]))
        refine OGo.on (fun t k => XS.istore X143.here hx rfl (hb hby at_119) rfl (l' := #[.val (.int va), .val (.int vb), .val (.int vc), .val (.int vd), .val (.int vfl), .val (.int x5), .val (.int x6), .val (.int x7), .val (.int x8), .val (.int x9), .val (.ref b134), .val (.int (2 : Int32)), .val (.int (0 : Int32)), .unset]) rfl k) ?_
        show OGo p e below s _ _ _ (T143.setTop (mkF m 121 #[.val (.int va), .val (.int vb), .val (.int vc), .val (.int vd), .val (.int vfl), .val (.int x5), .val (.int x6), .val (.int x7), .val (.int x8), .val (.int x9), .val (.ref b134), .val (.int (2 : Int32)), .val (.int (0 : Int32)), .unset] []))
        refine OGo.on (fun t k => XS.iload X143.here hx rfl (hb hby at_121) rfl k) ?_
        show OGo p e below s _ _ _ (T143.setTop (mkF m 123 #[.val (.int va), .val (.int vb), .val (.int vc), .val (.int vd), .val (.int vfl), .val (.int x5), .val (.int x6), .val (.int x7), .val (.int x8), .val (.int x9), .val (.ref b134), .val (.int (2 : Int32)), .val (.int (0 : Int32)), .unset] [(.int x7)]))
        refine OGo.on (fun t k => X143.ldcI hx hown (mvT hZ (hw _ (List.mem_of_getElem? (i := 26) rfl))) (g := (mkF m 123 #[.val (.int va), .val (.int vb), .val (.int vc), .val (.int vd), .val (.int vfl), .val (.int x5), .val (.int x6), .val (.int x7), .val (.int x8), .val (.int x9), .val (.ref b134), .val (.int (2 : Int32)), .val (.int (0 : Int32)), .unset] [(.int x7)])) rfl (hb hby at_123) k) ?_
        show OGo p e below s _ _ _ (T143.setTop (mkF m 125 #[.val (.int va), .val (.int vb), .val (.int vc), .val (.int vd), .val (.int vfl), .val (.int x5), .val (.int x6), .val (.int x7), .val (.int x8), .val (.int x9), .val (.ref b134), .val (.int (2 : Int32)), .val (.int (0 : Int32)), .unset] [(.int (-2147483648 : Int32)), (.int x7)]))
        by_cases hc187 : x7 = (-2147483648 : Int32)
        · refine OGo.on (fun t k => XS.icmpNo X143.here hx rfl (hb hby at_125) rfl (teq hc187).2 k) ?_
          show OGo p e below s _ _ _ (T143.setTop (mkF m 128 #[.val (.int va), .val (.int vb), .val (.int vc), .val (.int vd), .val (.int vfl), .val (.int x5), .val (.int x6), .val (.int x7), .val (.int x8), .val (.int x9), .val (.ref b134), .val (.int (2 : Int32)), .val (.int (0 : Int32)), .unset] []))
          refine OGo.on (fun t k => XS.iconst X143.here hx rfl (hb hby at_128) k) ?_
          show OGo p e below s _ _ _ (T143.setTop (mkF m 129 #[.val (.int va), .val (.int vb), .val (.int vc), .val (.int vd), .val (.int vfl), .val (.int x5), .val (.int x6), .val (.int x7), .val (.int x8), .val (.int x9), .val (.ref b134), .val (.int (2 : Int32)), .val (.int (0 : Int32)), .unset] [(.int (0 : Int32))]))
          refine OGo.on (fun t k => XS.goto X143.here hx rfl (pc0 := 129) (pc' := 133) rfl (hb hby at_129) (by decide) (by decide) k) ?_
          show OGo p e below s _ _ _ (T143.setTop (mkF m 133 #[.val (.int va), .val (.int vb), .val (.int vc), .val (.int vd), .val (.int vfl), .val (.int x5), .val (.int x6), .val (.int x7), .val (.int x8), .val (.int x9), .val (.ref b134), .val (.int (2 : Int32)), .val (.int (0 : Int32)), .unset] [(.int (0 : Int32))]))
          refine OGo.on (fun t k => XS.istore X143.here hx rfl (hb hby at_133) rfl (l' := #[.val (.int va), .val (.int vb), .val (.int vc), .val (.int vd), .val (.int vfl), .val (.int x5), .val (.int x6), .val (.int x7), .val (.int x8), .val (.int x9), .val (.ref b134), .val (.int (2 : Int32)), .val (.int (0 : Int32)), .val (.int (0 : Int32))]) rfl k) ?_
          show OGo p e below s _ _ _ (T143.setTop (mkF m 135 #[.val (.int va), .val (.int vb), .val (.int vc), .val (.int vd), .val (.int vfl), .val (.int x5), .val (.int x6), .val (.int x7), .val (.int x8), .val (.int x9), .val (.ref b134), .val (.int (2 : Int32)), .val (.int (0 : Int32)), .val (.int (0 : Int32))] []))
          refine OGo.on (fun t k => XS.aload X143.here hx rfl (hb hby at_135) rfl rfl k) ?_
          show OGo p e below s _ _ _ (T143.setTop (mkF m 137 #[.val (.int va), .val (.int vb), .val (.int vc), .val (.int vd), .val (.int vfl), .val (.int x5), .val (.int x6), .val (.int x7), .val (.int x8), .val (.int x9), .val (.ref b134), .val (.int (2 : Int32)), .val (.int (0 : Int32)), .val (.int (0 : Int32))] [(.ref b134)]))
          obtain ⟨cq188, kq188, q188a, q188b, q188c⟩ := isOf hZ rfl f144
          obtain ⟨_, _, ⟨T188, L188, k188, n188⟩, -, X188, ⟨Lc188, hQ188, l188, y188, z188⟩, st188⟩ := X143.virtualBack hx (y := (⟨"com/example/metrilog/metrilog/TemporalMapping", "timeColumns", "()I"⟩ : MethodName)) (z := (⟨"com/example/metrilog/metrilog/TemporalMapping", "timeColumns", "()I"⟩ : MethodName)) hown (mvT hZ (hw _ (List.mem_of_getElem? (i := 27) rfl))) (mvT hZ (hw _ (List.mem_of_getElem? (i := 28) rfl))) (notFace_of_selects (args := #[]) (mvT hZ (hw _ (List.mem_of_getElem? (i := 30) rfl)))) (mvT hZ (hw _ (List.mem_of_getElem? (i := 30) rfl))) (mvT hZ (hw _ (List.mem_of_getElem? (i := 29) rfl))) (by decide) (backOf (W := 0) (own_mtc l Z a0 hw [] b134 va x5 x6 x7 T143.heap n0 Z145 Fw143_0 Fw143_1 Fw143_2 Fw143_3) hZ (hw _ (List.mem_of_getElem? (i := 31) rfl)) (hw _ (List.mem_of_getElem? (i := 2) rfl)) (by decide) (by decide)) q188a q188c (g := (mkF m 137 #[.val (.int va), .val (.int vb), .val (.int vc), .val (.int vd), .val (.int vfl), .val (.int x5), .val (.int x6), .val (.int x7), .val (.int x8), .val (.int x9), .val (.ref b134), .val (.int (2 : Int32)), .val (.int (0 : Int32)), .val (.int (0 : Int32))] [(.ref b134)])) rfl (by rw [hml]; rfl) (Steps.refl _) (argsL := []) (rest := []) (lenOf own_pd2 rfl) rfl (by show 2 * 0 + _ ≤ _; exact Nat.le_of_eq rfl) (hb hby at_137) (fun _ _ => ⟨rfl, rfl, (by decide : 1 + 1 ≤ _), (by decide : 6 + 2 ≤ _)⟩)
          dsimp only [Pt.U, Pt.locs, Pt.cells, Pt.slots] at X188 l188 y188 z188 st188 hQ188
          subst l188 y188 z188
          obtain ⟨rfl, N188q, K188⟩ := hQ188
          have N188 := Fr.app N143 N188q
          have f189 : Exa Z T188.heap b134 "com/example/metrilog/metrilog/TemporalMapping" := f144.keep K188
          have f190 : Fld Z T188.heap b134 "com/example/metrilog/metrilog/TemporalMapping" "startColumn" "I" (.int va) := Fw143_0.keep K188 own_nm0
          have f191 : Fld Z T188.heap b134 "com/example/metrilog/metrilog/TemporalMapping" "endColumn" "I" (.int x5) := Fw143_1.keep K188 own_nm0
          have f192 : Fld Z T188.heap b134 "com/example/metrilog/metrilog/TemporalMapping" "startClosedColumn" "I" (.int x6) := Fw143_2.keep K188 own_nm0
          have f193 : Fld Z T188.heap b134 "com/example/metrilog/metrilog/TemporalMapping" "endClosedColumn" "I" (.int x7) := Fw143_3.keep K188 own_nm0
          have f194 : Fld Z T188.heap b134 "com/example/metrilog/metrilog/TemporalMapping" "startClosed" "Z" (.int (nar .boolean x8)) := Fw143_4.keep K188 own_nm0
          have f195 : Fld Z T188.heap b134 "com/example/metrilog/metrilog/TemporalMapping" "endClosed" "Z" (.int (nar .boolean x9)) := Fw143_5.keep K188 own_nm0
          have Z196 : n0 ≤ T188.heap.size := Nat.le_trans Z145 K188.1
          refine OGo.on (fun t k => st188.trans k) ?_
          show OGo p e below s _ _ _ (T188.setTop (mkF m 140 #[.val (.int va), .val (.int vb), .val (.int vc), .val (.int vd), .val (.int vfl), .val (.int x5), .val (.int x6), .val (.int x7), .val (.int x8), .val (.int x9), .val (.ref b134), .val (.int (2 : Int32)), .val (.int (0 : Int32)), .val (.int (0 : Int32))] [(.int (own_tcs va x5 x6 x7))]))
          refine OGo.on (fun t k => XS.iload X188.here hx rfl (hb hby at_140) rfl k) ?_
          show OGo p e below s _ _ _ (T188.setTop (mkF m 142 #[.val (.int va), .val (.int vb), .val (.int vc), .val (.int vd), .val (.int vfl), .val (.int x5), .val (.int x6), .val (.int x7), .val (.int x8), .val (.int x9), .val (.ref b134), .val (.int (2 : Int32)), .val (.int (0 : Int32)), .val (.int (0 : Int32))] [(.int (2 : Int32)), (.int (own_tcs va x5 x6 x7))]))
          refine OGo.on (fun t k => XS.iload X188.here hx rfl (hb hby at_142) rfl k) ?_
          show OGo p e below s _ _ _ (T188.setTop (mkF m 144 #[.val (.int va), .val (.int vb), .val (.int vc), .val (.int vd), .val (.int vfl), .val (.int x5), .val (.int x6), .val (.int x7), .val (.int x8), .val (.int x9), .val (.ref b134), .val (.int (2 : Int32)), .val (.int (0 : Int32)), .val (.int (0 : Int32))] [(.int (0 : Int32)), (.int (2 : Int32)), (.int (own_tcs va x5 x6 x7))]))
          refine OGo.on (fun t k => XS.iadd X188.here hx rfl (hb hby at_144) rfl k) ?_
          show OGo p e below s _ _ _ (T188.setTop (mkF m 145 #[.val (.int va), .val (.int vb), .val (.int vc), .val (.int vd), .val (.int vfl), .val (.int x5), .val (.int x6), .val (.int x7), .val (.int x8), .val (.int x9), .val (.ref b134), .val (.int (2 : Int32)), .val (.int (0 : Int32)), .val (.int (0 : Int32))] [(.int (2 : Int32)), (.int (own_tcs va x5 x6 x7))]))
          refine OGo.on (fun t k => XS.iload X188.here hx rfl (hb hby at_145) rfl k) ?_
          show OGo p e below s _ _ _ (T188.setTop (mkF m 147 #[.val (.int va), .val (.int vb), .val (.int vc), .val (.int vd), .val (.int vfl), .val (.int x5), .val (.int x6), .val (.int x7), .val (.int x8), .val (.int x9), .val (.ref b134), .val (.int (2 : Int32)), .val (.int (0 : Int32)), .val (.int (0 : Int32))] [(.int (0 : Int32)), (.int (2 : Int32)), (.int (own_tcs va x5 x6 x7))]))
          refine OGo.on (fun t k => XS.iadd X188.here hx rfl (hb hby at_147) rfl k) ?_
          show OGo p e below s _ _ _ (T188.setTop (mkF m 148 #[.val (.int va), .val (.int vb), .val (.int vc), .val (.int vd), .val (.int vfl), .val (.int x5), .val (.int x6), .val (.int x7), .val (.int x8), .val (.int x9), .val (.ref b134), .val (.int (2 : Int32)), .val (.int (0 : Int32)), .val (.int (0 : Int32))] [(.int (2 : Int32)), (.int (own_tcs va x5 x6 x7))]))
          refine OGo.on (fun t k => XS.icmpNo X188.here hx rfl (hb hby at_148) rfl (teq (by unfold own_tcs; simp only [hc146, hc186, hc187, if_true, if_false] <;> decide)).2 k) ?_
          show OGo p e below s _ _ _ (T188.setTop (mkF m 151 #[.val (.int va), .val (.int vb), .val (.int vc), .val (.int vd), .val (.int vfl), .val (.int x5), .val (.int x6), .val (.int x7), .val (.int x8), .val (.int x9), .val (.ref b134), .val (.int (2 : Int32)), .val (.int (0 : Int32)), .val (.int (0 : Int32))] []))
          refine OGo.on (fun t k => XS.iconst X188.here hx rfl (hb hby at_151) k) ?_
          show OGo p e below s _ _ _ (T188.setTop (mkF m 152 #[.val (.int va), .val (.int vb), .val (.int vc), .val (.int vd), .val (.int vfl), .val (.int x5), .val (.int x6), .val (.int x7), .val (.int x8), .val (.int x9), .val (.ref b134), .val (.int (2 : Int32)), .val (.int (0 : Int32)), .val (.int (0 : Int32))] [(.int (1 : Int32))]))
          refine OGo.on (fun t k => XS.goto X188.here hx rfl (pc0 := 152) (pc' := 156) rfl (hb hby at_152) (by decide) (by decide) k) ?_
          show OGo p e below s _ _ _ (T188.setTop (mkF m 156 #[.val (.int va), .val (.int vb), .val (.int vc), .val (.int vd), .val (.int vfl), .val (.int x5), .val (.int x6), .val (.int x7), .val (.int x8), .val (.int x9), .val (.ref b134), .val (.int (2 : Int32)), .val (.int (0 : Int32)), .val (.int (0 : Int32))] [(.int (1 : Int32))]))
          exact OGo.retN X188 hx (t := .boolean) hret hlk (by simp) (hb hby at_156) ⟨rfl, N188⟩ (by decide) (by decide)
        · refine OGo.on (fun t k => XS.icmpYes X143.here hx rfl (pc0 := 125) (pc' := 132) rfl (hb hby at_125) rfl (feq hc187).2 (by decide) (by decide) k) ?_
          show OGo p e below s _ _ _ (T143.setTop (mkF m 132 #[.val (.int va), .val (.int vb), .val (.int vc), .val (.int vd), .val (.int vfl), .val (.int x5), .val (.int x6), .val (.int x7), .val (.int x8), .val (.int x9), .val (.ref b134), .val (.int (2 : Int32)), .val (.int (0 : Int32)), .unset] []))
          refine OGo.on (fun t k => XS.iconst X143.here hx rfl (hb hby at_132) k) ?_
          show OGo p e below s _ _ _ (T143.setTop (mkF m 133 #[.val (.int va), .val (.int vb), .val (.int vc), .val (.int vd), .val (.int vfl), .val (.int x5), .val (.int x6), .val (.int x7), .val (.int x8), .val (.int x9), .val (.ref b134), .val (.int (2 : Int32)), .val (.int (0 : Int32)), .unset] [(.int (1 : Int32))]))
          refine OGo.on (fun t k => XS.istore X143.here hx rfl (hb hby at_133) rfl (l' := #[.val (.int va), .val (.int vb), .val (.int vc), .val (.int vd), .val (.int vfl), .val (.int x5), .val (.int x6), .val (.int x7), .val (.int x8), .val (.int x9), .val (.ref b134), .val (.int (2 : Int32)), .val (.int (0 : Int32)), .val (.int (1 : Int32))]) rfl k) ?_
          show OGo p e below s _ _ _ (T143.setTop (mkF m 135 #[.val (.int va), .val (.int vb), .val (.int vc), .val (.int vd), .val (.int vfl), .val (.int x5), .val (.int x6), .val (.int x7), .val (.int x8), .val (.int x9), .val (.ref b134), .val (.int (2 : Int32)), .val (.int (0 : Int32)), .val (.int (1 : Int32))] []))
          refine OGo.on (fun t k => XS.aload X143.here hx rfl (hb hby at_135) rfl rfl k) ?_
          show OGo p e below s _ _ _ (T143.setTop (mkF m 137 #[.val (.int va), .val (.int vb), .val (.int vc), .val (.int vd), .val (.int vfl), .val (.int x5), .val (.int x6), .val (.int x7), .val (.int x8), .val (.int x9), .val (.ref b134), .val (.int (2 : Int32)), .val (.int (0 : Int32)), .val (.int (1 : Int32))] [(.ref b134)]))
          obtain ⟨cq197, kq197, q197a, q197b, q197c⟩ := isOf hZ rfl f144
          obtain ⟨_, _, ⟨T197, L197, k197, n197⟩, -, X197, ⟨Lc197, hQ197, l197, y197, z197⟩, st197⟩ := X143.virtualBack hx (y := (⟨"com/example/metrilog/metrilog/TemporalMapping", "timeColumns", "()I"⟩ : MethodName)) (z := (⟨"com/example/metrilog/metrilog/TemporalMapping", "timeColumns", "()I"⟩ : MethodName)) hown (mvT hZ (hw _ (List.mem_of_getElem? (i := 27) rfl))) (mvT hZ (hw _ (List.mem_of_getElem? (i := 28) rfl))) (notFace_of_selects (args := #[]) (mvT hZ (hw _ (List.mem_of_getElem? (i := 30) rfl)))) (mvT hZ (hw _ (List.mem_of_getElem? (i := 30) rfl))) (mvT hZ (hw _ (List.mem_of_getElem? (i := 29) rfl))) (by decide) (backOf (W := 0) (own_mtc l Z a0 hw [] b134 va x5 x6 x7 T143.heap n0 Z145 Fw143_0 Fw143_1 Fw143_2 Fw143_3) hZ (hw _ (List.mem_of_getElem? (i := 31) rfl)) (hw _ (List.mem_of_getElem? (i := 2) rfl)) (by decide) (by decide)) q197a q197c (g := (mkF m 137 #[.val (.int va), .val (.int vb), .val (.int vc), .val (.int vd), .val (.int vfl), .val (.int x5), .val (.int x6), .val (.int x7), .val (.int x8), .val (.int x9), .val (.ref b134), .val (.int (2 : Int32)), .val (.int (0 : Int32)), .val (.int (1 : Int32))] [(.ref b134)])) rfl (by rw [hml]; rfl) (Steps.refl _) (argsL := []) (rest := []) (lenOf own_pd2 rfl) rfl (by show 2 * 0 + _ ≤ _; exact Nat.le_of_eq rfl) (hb hby at_137) (fun _ _ => ⟨rfl, rfl, (by decide : 1 + 1 ≤ _), (by decide : 6 + 2 ≤ _)⟩)
          dsimp only [Pt.U, Pt.locs, Pt.cells, Pt.slots] at X197 l197 y197 z197 st197 hQ197
          subst l197 y197 z197
          obtain ⟨rfl, N197q, K197⟩ := hQ197
          have N197 := Fr.app N143 N197q
          have f198 : Exa Z T197.heap b134 "com/example/metrilog/metrilog/TemporalMapping" := f144.keep K197
          have f199 : Fld Z T197.heap b134 "com/example/metrilog/metrilog/TemporalMapping" "startColumn" "I" (.int va) := Fw143_0.keep K197 own_nm0
          have f200 : Fld Z T197.heap b134 "com/example/metrilog/metrilog/TemporalMapping" "endColumn" "I" (.int x5) := Fw143_1.keep K197 own_nm0
          have f201 : Fld Z T197.heap b134 "com/example/metrilog/metrilog/TemporalMapping" "startClosedColumn" "I" (.int x6) := Fw143_2.keep K197 own_nm0
          have f202 : Fld Z T197.heap b134 "com/example/metrilog/metrilog/TemporalMapping" "endClosedColumn" "I" (.int x7) := Fw143_3.keep K197 own_nm0
          have f203 : Fld Z T197.heap b134 "com/example/metrilog/metrilog/TemporalMapping" "startClosed" "Z" (.int (nar .boolean x8)) := Fw143_4.keep K197 own_nm0
          have f204 : Fld Z T197.heap b134 "com/example/metrilog/metrilog/TemporalMapping" "endClosed" "Z" (.int (nar .boolean x9)) := Fw143_5.keep K197 own_nm0
          have Z205 : n0 ≤ T197.heap.size := Nat.le_trans Z145 K197.1
          refine OGo.on (fun t k => st197.trans k) ?_
          show OGo p e below s _ _ _ (T197.setTop (mkF m 140 #[.val (.int va), .val (.int vb), .val (.int vc), .val (.int vd), .val (.int vfl), .val (.int x5), .val (.int x6), .val (.int x7), .val (.int x8), .val (.int x9), .val (.ref b134), .val (.int (2 : Int32)), .val (.int (0 : Int32)), .val (.int (1 : Int32))] [(.int (own_tcs va x5 x6 x7))]))
          refine OGo.on (fun t k => XS.iload X197.here hx rfl (hb hby at_140) rfl k) ?_
          show OGo p e below s _ _ _ (T197.setTop (mkF m 142 #[.val (.int va), .val (.int vb), .val (.int vc), .val (.int vd), .val (.int vfl), .val (.int x5), .val (.int x6), .val (.int x7), .val (.int x8), .val (.int x9), .val (.ref b134), .val (.int (2 : Int32)), .val (.int (0 : Int32)), .val (.int (1 : Int32))] [(.int (2 : Int32)), (.int (own_tcs va x5 x6 x7))]))
          refine OGo.on (fun t k => XS.iload X197.here hx rfl (hb hby at_142) rfl k) ?_
          show OGo p e below s _ _ _ (T197.setTop (mkF m 144 #[.val (.int va), .val (.int vb), .val (.int vc), .val (.int vd), .val (.int vfl), .val (.int x5), .val (.int x6), .val (.int x7), .val (.int x8), .val (.int x9), .val (.ref b134), .val (.int (2 : Int32)), .val (.int (0 : Int32)), .val (.int (1 : Int32))] [(.int (0 : Int32)), (.int (2 : Int32)), (.int (own_tcs va x5 x6 x7))]))
          refine OGo.on (fun t k => XS.iadd X197.here hx rfl (hb hby at_144) rfl k) ?_
          show OGo p e below s _ _ _ (T197.setTop (mkF m 145 #[.val (.int va), .val (.int vb), .val (.int vc), .val (.int vd), .val (.int vfl), .val (.int x5), .val (.int x6), .val (.int x7), .val (.int x8), .val (.int x9), .val (.ref b134), .val (.int (2 : Int32)), .val (.int (0 : Int32)), .val (.int (1 : Int32))] [(.int (2 : Int32)), (.int (own_tcs va x5 x6 x7))]))
          refine OGo.on (fun t k => XS.iload X197.here hx rfl (hb hby at_145) rfl k) ?_
          show OGo p e below s _ _ _ (T197.setTop (mkF m 147 #[.val (.int va), .val (.int vb), .val (.int vc), .val (.int vd), .val (.int vfl), .val (.int x5), .val (.int x6), .val (.int x7), .val (.int x8), .val (.int x9), .val (.ref b134), .val (.int (2 : Int32)), .val (.int (0 : Int32)), .val (.int (1 : Int32))] [(.int (1 : Int32)), (.int (2 : Int32)), (.int (own_tcs va x5 x6 x7))]))
          refine OGo.on (fun t k => XS.iadd X197.here hx rfl (hb hby at_147) rfl k) ?_
          show OGo p e below s _ _ _ (T197.setTop (mkF m 148 #[.val (.int va), .val (.int vb), .val (.int vc), .val (.int vd), .val (.int vfl), .val (.int x5), .val (.int x6), .val (.int x7), .val (.int x8), .val (.int x9), .val (.ref b134), .val (.int (2 : Int32)), .val (.int (0 : Int32)), .val (.int (1 : Int32))] [(.int (3 : Int32)), (.int (own_tcs va x5 x6 x7))]))
          refine OGo.on (fun t k => XS.icmpNo X197.here hx rfl (hb hby at_148) rfl (teq (by unfold own_tcs; simp only [hc146, hc186, hc187, if_true, if_false] <;> decide)).2 k) ?_
          show OGo p e below s _ _ _ (T197.setTop (mkF m 151 #[.val (.int va), .val (.int vb), .val (.int vc), .val (.int vd), .val (.int vfl), .val (.int x5), .val (.int x6), .val (.int x7), .val (.int x8), .val (.int x9), .val (.ref b134), .val (.int (2 : Int32)), .val (.int (0 : Int32)), .val (.int (1 : Int32))] []))
          refine OGo.on (fun t k => XS.iconst X197.here hx rfl (hb hby at_151) k) ?_
          show OGo p e below s _ _ _ (T197.setTop (mkF m 152 #[.val (.int va), .val (.int vb), .val (.int vc), .val (.int vd), .val (.int vfl), .val (.int x5), .val (.int x6), .val (.int x7), .val (.int x8), .val (.int x9), .val (.ref b134), .val (.int (2 : Int32)), .val (.int (0 : Int32)), .val (.int (1 : Int32))] [(.int (1 : Int32))]))
          refine OGo.on (fun t k => XS.goto X197.here hx rfl (pc0 := 152) (pc' := 156) rfl (hb hby at_152) (by decide) (by decide) k) ?_
          show OGo p e below s _ _ _ (T197.setTop (mkF m 156 #[.val (.int va), .val (.int vb), .val (.int vc), .val (.int vd), .val (.int vfl), .val (.int x5), .val (.int x6), .val (.int x7), .val (.int x8), .val (.int x9), .val (.ref b134), .val (.int (2 : Int32)), .val (.int (0 : Int32)), .val (.int (1 : Int32))] [(.int (1 : Int32))]))
          exact OGo.retN X197 hx (t := .boolean) hret hlk (by simp) (hb hby at_156) ⟨rfl, N197⟩ (by decide) (by decide)
      · refine OGo.on (fun t k => XS.icmpYes X143.here hx rfl (pc0 := 111) (pc' := 118) rfl (hb hby at_111) rfl (feq hc186).2 (by decide) (by decide) k) ?_
        show OGo p e below s _ _ _ (T143.setTop (mkF m 118 #[.val (.int va), .val (.int vb), .val (.int vc), .val (.int vd), .val (.int vfl), .val (.int x5), .val (.int x6), .val (.int x7), .val (.int x8), .val (.int x9), .val (.ref b134), .val (.int (2 : Int32)), .unset, .unset] []))
        refine OGo.on (fun t k => XS.iconst X143.here hx rfl (hb hby at_118) k) ?_
        show OGo p e below s _ _ _ (T143.setTop (mkF m 119 #[.val (.int va), .val (.int vb), .val (.int vc), .val (.int vd), .val (.int vfl), .val (.int x5), .val (.int x6), .val (.int x7), .val (.int x8), .val (.int x9), .val (.ref b134), .val (.int (2 : Int32)), .unset, .unset] [(.int (1 : Int32))]))
        refine OGo.on (fun t k => XS.istore X143.here hx rfl (hb hby at_119) rfl (l' := #[.val (.int va), .val (.int vb), .val (.int vc), .val (.int vd), .val (.int vfl), .val (.int x5), .val (.int x6), .val (.int x7), .val (.int x8), .val (.int x9), .val (.ref b134), .val (.int (2 : Int32)), .val (.int (1 : Int32)), .unset]) rfl k) ?_
        show OGo p e below s _ _ _ (T143.setTop (mkF m 121 #[.val (.int va), .val (.int vb), .val (.int vc), .val (.int vd), .val (.int vfl), .val (.int x5), .val (.int x6), .val (.int x7), .val (.int x8), .val (.int x9), .val (.ref b134), .val (.int (2 : Int32)), .val (.int (1 : Int32)), .unset] []))
        refine OGo.on (fun t k => XS.iload X143.here hx rfl (hb hby at_121) rfl k) ?_
        show OGo p e below s _ _ _ (T143.setTop (mkF m 123 #[.val (.int va), .val (.int vb), .val (.int vc), .val (.int vd), .val (.int vfl), .val (.int x5), .val (.int x6), .val (.int x7), .val (.int x8), .val (.int x9), .val (.ref b134), .val (.int (2 : Int32)), .val (.int (1 : Int32)), .unset] [(.int x7)]))
        refine OGo.on (fun t k => X143.ldcI hx hown (mvT hZ (hw _ (List.mem_of_getElem? (i := 26) rfl))) (g := (mkF m 123 #[.val (.int va), .val (.int vb), .val (.int vc), .val (.int vd), .val (.int vfl), .val (.int x5), .val (.int x6), .val (.int x7), .val (.int x8), .val (.int x9), .val (.ref b134), .val (.int (2 : Int32)), .val (.int (1 : Int32)), .unset] [(.int x7)])) rfl (hb hby at_123) k) ?_
        show OGo p e below s _ _ _ (T143.setTop (mkF m 125 #[.val (.int va), .val (.int vb), .val (.int vc), .val (.int vd), .val (.int vfl), .val (.int x5), .val (.int x6), .val (.int x7), .val (.int x8), .val (.int x9), .val (.ref b134), .val (.int (2 : Int32)), .val (.int (1 : Int32)), .unset] [(.int (-2147483648 : Int32)), (.int x7)]))
        by_cases hc206 : x7 = (-2147483648 : Int32)
        · refine OGo.on (fun t k => XS.icmpNo X143.here hx rfl (hb hby at_125) rfl (teq hc206).2 k) ?_
          show OGo p e below s _ _ _ (T143.setTop (mkF m 128 #[.val (.int va), .val (.int vb), .val (.int vc), .val (.int vd), .val (.int vfl), .val (.int x5), .val (.int x6), .val (.int x7), .val (.int x8), .val (.int x9), .val (.ref b134), .val (.int (2 : Int32)), .val (.int (1 : Int32)), .unset] []))
          refine OGo.on (fun t k => XS.iconst X143.here hx rfl (hb hby at_128) k) ?_
          show OGo p e below s _ _ _ (T143.setTop (mkF m 129 #[.val (.int va), .val (.int vb), .val (.int vc), .val (.int vd), .val (.int vfl), .val (.int x5), .val (.int x6), .val (.int x7), .val (.int x8), .val (.int x9), .val (.ref b134), .val (.int (2 : Int32)), .val (.int (1 : Int32)), .unset] [(.int (0 : Int32))]))
          refine OGo.on (fun t k => XS.goto X143.here hx rfl (pc0 := 129) (pc' := 133) rfl (hb hby at_129) (by decide) (by decide) k) ?_
          show OGo p e below s _ _ _ (T143.setTop (mkF m 133 #[.val (.int va), .val (.int vb), .val (.int vc), .val (.int vd), .val (.int vfl), .val (.int x5), .val (.int x6), .val (.int x7), .val (.int x8), .val (.int x9), .val (.ref b134), .val (.int (2 : Int32)), .val (.int (1 : Int32)), .unset] [(.int (0 : Int32))]))
          refine OGo.on (fun t k => XS.istore X143.here hx rfl (hb hby at_133) rfl (l' := #[.val (.int va), .val (.int vb), .val (.int vc), .val (.int vd), .val (.int vfl), .val (.int x5), .val (.int x6), .val (.int x7), .val (.int x8), .val (.int x9), .val (.ref b134), .val (.int (2 : Int32)), .val (.int (1 : Int32)), .val (.int (0 : Int32))]) rfl k) ?_
          show OGo p e below s _ _ _ (T143.setTop (mkF m 135 #[.val (.int va), .val (.int vb), .val (.int vc), .val (.int vd), .val (.int vfl), .val (.int x5), .val (.int x6), .val (.int x7), .val (.int x8), .val (.int x9), .val (.ref b134), .val (.int (2 : Int32)), .val (.int (1 : Int32)), .val (.int (0 : Int32))] []))
          refine OGo.on (fun t k => XS.aload X143.here hx rfl (hb hby at_135) rfl rfl k) ?_
          show OGo p e below s _ _ _ (T143.setTop (mkF m 137 #[.val (.int va), .val (.int vb), .val (.int vc), .val (.int vd), .val (.int vfl), .val (.int x5), .val (.int x6), .val (.int x7), .val (.int x8), .val (.int x9), .val (.ref b134), .val (.int (2 : Int32)), .val (.int (1 : Int32)), .val (.int (0 : Int32))] [(.ref b134)]))
          obtain ⟨cq207, kq207, q207a, q207b, q207c⟩ := isOf hZ rfl f144
          obtain ⟨_, _, ⟨T207, L207, k207, n207⟩, -, X207, ⟨Lc207, hQ207, l207, y207, z207⟩, st207⟩ := X143.virtualBack hx (y := (⟨"com/example/metrilog/metrilog/TemporalMapping", "timeColumns", "()I"⟩ : MethodName)) (z := (⟨"com/example/metrilog/metrilog/TemporalMapping", "timeColumns", "()I"⟩ : MethodName)) hown (mvT hZ (hw _ (List.mem_of_getElem? (i := 27) rfl))) (mvT hZ (hw _ (List.mem_of_getElem? (i := 28) rfl))) (notFace_of_selects (args := #[]) (mvT hZ (hw _ (List.mem_of_getElem? (i := 30) rfl)))) (mvT hZ (hw _ (List.mem_of_getElem? (i := 30) rfl))) (mvT hZ (hw _ (List.mem_of_getElem? (i := 29) rfl))) (by decide) (backOf (W := 0) (own_mtc l Z a0 hw [] b134 va x5 x6 x7 T143.heap n0 Z145 Fw143_0 Fw143_1 Fw143_2 Fw143_3) hZ (hw _ (List.mem_of_getElem? (i := 31) rfl)) (hw _ (List.mem_of_getElem? (i := 2) rfl)) (by decide) (by decide)) q207a q207c (g := (mkF m 137 #[.val (.int va), .val (.int vb), .val (.int vc), .val (.int vd), .val (.int vfl), .val (.int x5), .val (.int x6), .val (.int x7), .val (.int x8), .val (.int x9), .val (.ref b134), .val (.int (2 : Int32)), .val (.int (1 : Int32)), .val (.int (0 : Int32))] [(.ref b134)])) rfl (by rw [hml]; rfl) (Steps.refl _) (argsL := []) (rest := []) (lenOf own_pd2 rfl) rfl (by show 2 * 0 + _ ≤ _; exact Nat.le_of_eq rfl) (hb hby at_137) (fun _ _ => ⟨rfl, rfl, (by decide : 1 + 1 ≤ _), (by decide : 6 + 2 ≤ _)⟩)
          dsimp only [Pt.U, Pt.locs, Pt.cells, Pt.slots] at X207 l207 y207 z207 st207 hQ207
          subst l207 y207 z207
          obtain ⟨rfl, N207q, K207⟩ := hQ207
          have N207 := Fr.app N143 N207q
          have f208 : Exa Z T207.heap b134 "com/example/metrilog/metrilog/TemporalMapping" := f144.keep K207
          have f209 : Fld Z T207.heap b134 "com/example/metrilog/metrilog/TemporalMapping" "startColumn" "I" (.int va) := Fw143_0.keep K207 own_nm0
          have f210 : Fld Z T207.heap b134 "com/example/metrilog/metrilog/TemporalMapping" "endColumn" "I" (.int x5) := Fw143_1.keep K207 own_nm0
          have f211 : Fld Z T207.heap b134 "com/example/metrilog/metrilog/TemporalMapping" "startClosedColumn" "I" (.int x6) := Fw143_2.keep K207 own_nm0
          have f212 : Fld Z T207.heap b134 "com/example/metrilog/metrilog/TemporalMapping" "endClosedColumn" "I" (.int x7) := Fw143_3.keep K207 own_nm0
          have f213 : Fld Z T207.heap b134 "com/example/metrilog/metrilog/TemporalMapping" "startClosed" "Z" (.int (nar .boolean x8)) := Fw143_4.keep K207 own_nm0
          have f214 : Fld Z T207.heap b134 "com/example/metrilog/metrilog/TemporalMapping" "endClosed" "Z" (.int (nar .boolean x9)) := Fw143_5.keep K207 own_nm0
          have Z215 : n0 ≤ T207.heap.size := Nat.le_trans Z145 K207.1
          refine OGo.on (fun t k => st207.trans k) ?_
          show OGo p e below s _ _ _ (T207.setTop (mkF m 140 #[.val (.int va), .val (.int vb), .val (.int vc), .val (.int vd), .val (.int vfl), .val (.int x5), .val (.int x6), .val (.int x7), .val (.int x8), .val (.int x9), .val (.ref b134), .val (.int (2 : Int32)), .val (.int (1 : Int32)), .val (.int (0 : Int32))] [(.int (own_tcs va x5 x6 x7))]))
          refine OGo.on (fun t k => XS.iload X207.here hx rfl (hb hby at_140) rfl k) ?_
          show OGo p e below s _ _ _ (T207.setTop (mkF m 142 #[.val (.int va), .val (.int vb), .val (.int vc), .val (.int vd), .val (.int vfl), .val (.int x5), .val (.int x6), .val (.int x7), .val (.int x8), .val (.int x9), .val (.ref b134), .val (.int (2 : Int32)), .val (.int (1 : Int32)), .val (.int (0 : Int32))] [(.int (2 : Int32)), (.int (own_tcs va x5 x6 x7))]))
          refine OGo.on (fun t k => XS.iload X207.here hx rfl (hb hby at_142) rfl k) ?_
          show OGo p e below s _ _ _ (T207.setTop (mkF m 144 #[.val (.int va), .val (.int vb), .val (.int vc), .val (.int vd), .val (.int vfl), .val (.int x5), .val (.int x6), .val (.int x7), .val (.int x8), .val (.int x9), .val (.ref b134), .val (.int (2 : Int32)), .val (.int (1 : Int32)), .val (.int (0 : Int32))] [(.int (1 : Int32)), (.int (2 : Int32)), (.int (own_tcs va x5 x6 x7))]))
          refine OGo.on (fun t k => XS.iadd X207.here hx rfl (hb hby at_144) rfl k) ?_
          show OGo p e below s _ _ _ (T207.setTop (mkF m 145 #[.val (.int va), .val (.int vb), .val (.int vc), .val (.int vd), .val (.int vfl), .val (.int x5), .val (.int x6), .val (.int x7), .val (.int x8), .val (.int x9), .val (.ref b134), .val (.int (2 : Int32)), .val (.int (1 : Int32)), .val (.int (0 : Int32))] [(.int (3 : Int32)), (.int (own_tcs va x5 x6 x7))]))
          refine OGo.on (fun t k => XS.iload X207.here hx rfl (hb hby at_145) rfl k) ?_
          show OGo p e below s _ _ _ (T207.setTop (mkF m 147 #[.val (.int va), .val (.int vb), .val (.int vc), .val (.int vd), .val (.int vfl), .val (.int x5), .val (.int x6), .val (.int x7), .val (.int x8), .val (.int x9), .val (.ref b134), .val (.int (2 : Int32)), .val (.int (1 : Int32)), .val (.int (0 : Int32))] [(.int (0 : Int32)), (.int (3 : Int32)), (.int (own_tcs va x5 x6 x7))]))
          refine OGo.on (fun t k => XS.iadd X207.here hx rfl (hb hby at_147) rfl k) ?_
          show OGo p e below s _ _ _ (T207.setTop (mkF m 148 #[.val (.int va), .val (.int vb), .val (.int vc), .val (.int vd), .val (.int vfl), .val (.int x5), .val (.int x6), .val (.int x7), .val (.int x8), .val (.int x9), .val (.ref b134), .val (.int (2 : Int32)), .val (.int (1 : Int32)), .val (.int (0 : Int32))] [(.int (3 : Int32)), (.int (own_tcs va x5 x6 x7))]))
          refine OGo.on (fun t k => XS.icmpNo X207.here hx rfl (hb hby at_148) rfl (teq (by unfold own_tcs; simp only [hc146, hc186, hc206, if_true, if_false] <;> decide)).2 k) ?_
          show OGo p e below s _ _ _ (T207.setTop (mkF m 151 #[.val (.int va), .val (.int vb), .val (.int vc), .val (.int vd), .val (.int vfl), .val (.int x5), .val (.int x6), .val (.int x7), .val (.int x8), .val (.int x9), .val (.ref b134), .val (.int (2 : Int32)), .val (.int (1 : Int32)), .val (.int (0 : Int32))] []))
          refine OGo.on (fun t k => XS.iconst X207.here hx rfl (hb hby at_151) k) ?_
          show OGo p e below s _ _ _ (T207.setTop (mkF m 152 #[.val (.int va), .val (.int vb), .val (.int vc), .val (.int vd), .val (.int vfl), .val (.int x5), .val (.int x6), .val (.int x7), .val (.int x8), .val (.int x9), .val (.ref b134), .val (.int (2 : Int32)), .val (.int (1 : Int32)), .val (.int (0 : Int32))] [(.int (1 : Int32))]))
          refine OGo.on (fun t k => XS.goto X207.here hx rfl (pc0 := 152) (pc' := 156) rfl (hb hby at_152) (by decide) (by decide) k) ?_
          show OGo p e below s _ _ _ (T207.setTop (mkF m 156 #[.val (.int va), .val (.int vb), .val (.int vc), .val (.int vd), .val (.int vfl), .val (.int x5), .val (.int x6), .val (.int x7), .val (.int x8), .val (.int x9), .val (.ref b134), .val (.int (2 : Int32)), .val (.int (1 : Int32)), .val (.int (0 : Int32))] [(.int (1 : Int32))]))
          exact OGo.retN X207 hx (t := .boolean) hret hlk (by simp) (hb hby at_156) ⟨rfl, N207⟩ (by decide) (by decide)
        · refine OGo.on (fun t k => XS.icmpYes X143.here hx rfl (pc0 := 125) (pc' := 132) rfl (hb hby at_125) rfl (feq hc206).2 (by decide) (by decide) k) ?_
          show OGo p e below s _ _ _ (T143.setTop (mkF m 132 #[.val (.int va), .val (.int vb), .val (.int vc), .val (.int vd), .val (.int vfl), .val (.int x5), .val (.int x6), .val (.int x7), .val (.int x8), .val (.int x9), .val (.ref b134), .val (.int (2 : Int32)), .val (.int (1 : Int32)), .unset] []))
          refine OGo.on (fun t k => XS.iconst X143.here hx rfl (hb hby at_132) k) ?_
          show OGo p e below s _ _ _ (T143.setTop (mkF m 133 #[.val (.int va), .val (.int vb), .val (.int vc), .val (.int vd), .val (.int vfl), .val (.int x5), .val (.int x6), .val (.int x7), .val (.int x8), .val (.int x9), .val (.ref b134), .val (.int (2 : Int32)), .val (.int (1 : Int32)), .unset] [(.int (1 : Int32))]))
          refine OGo.on (fun t k => XS.istore X143.here hx rfl (hb hby at_133) rfl (l' := #[.val (.int va), .val (.int vb), .val (.int vc), .val (.int vd), .val (.int vfl), .val (.int x5), .val (.int x6), .val (.int x7), .val (.int x8), .val (.int x9), .val (.ref b134), .val (.int (2 : Int32)), .val (.int (1 : Int32)), .val (.int (1 : Int32))]) rfl k) ?_
          show OGo p e below s _ _ _ (T143.setTop (mkF m 135 #[.val (.int va), .val (.int vb), .val (.int vc), .val (.int vd), .val (.int vfl), .val (.int x5), .val (.int x6), .val (.int x7), .val (.int x8), .val (.int x9), .val (.ref b134), .val (.int (2 : Int32)), .val (.int (1 : Int32)), .val (.int (1 : Int32))] []))
          refine OGo.on (fun t k => XS.aload X143.here hx rfl (hb hby at_135) rfl rfl k) ?_
          show OGo p e below s _ _ _ (T143.setTop (mkF m 137 #[.val (.int va), .val (.int vb), .val (.int vc), .val (.int vd), .val (.int vfl), .val (.int x5), .val (.int x6), .val (.int x7), .val (.int x8), .val (.int x9), .val (.ref b134), .val (.int (2 : Int32)), .val (.int (1 : Int32)), .val (.int (1 : Int32))] [(.ref b134)]))
          obtain ⟨cq216, kq216, q216a, q216b, q216c⟩ := isOf hZ rfl f144
          obtain ⟨_, _, ⟨T216, L216, k216, n216⟩, -, X216, ⟨Lc216, hQ216, l216, y216, z216⟩, st216⟩ := X143.virtualBack hx (y := (⟨"com/example/metrilog/metrilog/TemporalMapping", "timeColumns", "()I"⟩ : MethodName)) (z := (⟨"com/example/metrilog/metrilog/TemporalMapping", "timeColumns", "()I"⟩ : MethodName)) hown (mvT hZ (hw _ (List.mem_of_getElem? (i := 27) rfl))) (mvT hZ (hw _ (List.mem_of_getElem? (i := 28) rfl))) (notFace_of_selects (args := #[]) (mvT hZ (hw _ (List.mem_of_getElem? (i := 30) rfl)))) (mvT hZ (hw _ (List.mem_of_getElem? (i := 30) rfl))) (mvT hZ (hw _ (List.mem_of_getElem? (i := 29) rfl))) (by decide) (backOf (W := 0) (own_mtc l Z a0 hw [] b134 va x5 x6 x7 T143.heap n0 Z145 Fw143_0 Fw143_1 Fw143_2 Fw143_3) hZ (hw _ (List.mem_of_getElem? (i := 31) rfl)) (hw _ (List.mem_of_getElem? (i := 2) rfl)) (by decide) (by decide)) q216a q216c (g := (mkF m 137 #[.val (.int va), .val (.int vb), .val (.int vc), .val (.int vd), .val (.int vfl), .val (.int x5), .val (.int x6), .val (.int x7), .val (.int x8), .val (.int x9), .val (.ref b134), .val (.int (2 : Int32)), .val (.int (1 : Int32)), .val (.int (1 : Int32))] [(.ref b134)])) rfl (by rw [hml]; rfl) (Steps.refl _) (argsL := []) (rest := []) (lenOf own_pd2 rfl) rfl (by show 2 * 0 + _ ≤ _; exact Nat.le_of_eq rfl) (hb hby at_137) (fun _ _ => ⟨rfl, rfl, (by decide : 1 + 1 ≤ _), (by decide : 6 + 2 ≤ _)⟩)
          dsimp only [Pt.U, Pt.locs, Pt.cells, Pt.slots] at X216 l216 y216 z216 st216 hQ216
          subst l216 y216 z216
          obtain ⟨rfl, N216q, K216⟩ := hQ216
          have N216 := Fr.app N143 N216q
          have f217 : Exa Z T216.heap b134 "com/example/metrilog/metrilog/TemporalMapping" := f144.keep K216
          have f218 : Fld Z T216.heap b134 "com/example/metrilog/metrilog/TemporalMapping" "startColumn" "I" (.int va) := Fw143_0.keep K216 own_nm0
          have f219 : Fld Z T216.heap b134 "com/example/metrilog/metrilog/TemporalMapping" "endColumn" "I" (.int x5) := Fw143_1.keep K216 own_nm0
          have f220 : Fld Z T216.heap b134 "com/example/metrilog/metrilog/TemporalMapping" "startClosedColumn" "I" (.int x6) := Fw143_2.keep K216 own_nm0
          have f221 : Fld Z T216.heap b134 "com/example/metrilog/metrilog/TemporalMapping" "endClosedColumn" "I" (.int x7) := Fw143_3.keep K216 own_nm0
          have f222 : Fld Z T216.heap b134 "com/example/metrilog/metrilog/TemporalMapping" "startClosed" "Z" (.int (nar .boolean x8)) := Fw143_4.keep K216 own_nm0
          have f223 : Fld Z T216.heap b134 "com/example/metrilog/metrilog/TemporalMapping" "endClosed" "Z" (.int (nar .boolean x9)) := Fw143_5.keep K216 own_nm0
          have Z224 : n0 ≤ T216.heap.size := Nat.le_trans Z145 K216.1
          refine OGo.on (fun t k => st216.trans k) ?_
          show OGo p e below s _ _ _ (T216.setTop (mkF m 140 #[.val (.int va), .val (.int vb), .val (.int vc), .val (.int vd), .val (.int vfl), .val (.int x5), .val (.int x6), .val (.int x7), .val (.int x8), .val (.int x9), .val (.ref b134), .val (.int (2 : Int32)), .val (.int (1 : Int32)), .val (.int (1 : Int32))] [(.int (own_tcs va x5 x6 x7))]))
          refine OGo.on (fun t k => XS.iload X216.here hx rfl (hb hby at_140) rfl k) ?_
          show OGo p e below s _ _ _ (T216.setTop (mkF m 142 #[.val (.int va), .val (.int vb), .val (.int vc), .val (.int vd), .val (.int vfl), .val (.int x5), .val (.int x6), .val (.int x7), .val (.int x8), .val (.int x9), .val (.ref b134), .val (.int (2 : Int32)), .val (.int (1 : Int32)), .val (.int (1 : Int32))] [(.int (2 : Int32)), (.int (own_tcs va x5 x6 x7))]))
          refine OGo.on (fun t k => XS.iload X216.here hx rfl (hb hby at_142) rfl k) ?_
          show OGo p e below s _ _ _ (T216.setTop (mkF m 144 #[.val (.int va), .val (.int vb), .val (.int vc), .val (.int vd), .val (.int vfl), .val (.int x5), .val (.int x6), .val (.int x7), .val (.int x8), .val (.int x9), .val (.ref b134), .val (.int (2 : Int32)), .val (.int (1 : Int32)), .val (.int (1 : Int32))] [(.int (1 : Int32)), (.int (2 : Int32)), (.int (own_tcs va x5 x6 x7))]))
          refine OGo.on (fun t k => XS.iadd X216.here hx rfl (hb hby at_144) rfl k) ?_
          show OGo p e below s _ _ _ (T216.setTop (mkF m 145 #[.val (.int va), .val (.int vb), .val (.int vc), .val (.int vd), .val (.int vfl), .val (.int x5), .val (.int x6), .val (.int x7), .val (.int x8), .val (.int x9), .val (.ref b134), .val (.int (2 : Int32)), .val (.int (1 : Int32)), .val (.int (1 : Int32))] [(.int (3 : Int32)), (.int (own_tcs va x5 x6 x7))]))
          refine OGo.on (fun t k => XS.iload X216.here hx rfl (hb hby at_145) rfl k) ?_
          show OGo p e below s _ _ _ (T216.setTop (mkF m 147 #[.val (.int va), .val (.int vb), .val (.int vc), .val (.int vd), .val (.int vfl), .val (.int x5), .val (.int x6), .val (.int x7), .val (.int x8), .val (.int x9), .val (.ref b134), .val (.int (2 : Int32)), .val (.int (1 : Int32)), .val (.int (1 : Int32))] [(.int (1 : Int32)), (.int (3 : Int32)), (.int (own_tcs va x5 x6 x7))]))
          refine OGo.on (fun t k => XS.iadd X216.here hx rfl (hb hby at_147) rfl k) ?_
          show OGo p e below s _ _ _ (T216.setTop (mkF m 148 #[.val (.int va), .val (.int vb), .val (.int vc), .val (.int vd), .val (.int vfl), .val (.int x5), .val (.int x6), .val (.int x7), .val (.int x8), .val (.int x9), .val (.ref b134), .val (.int (2 : Int32)), .val (.int (1 : Int32)), .val (.int (1 : Int32))] [(.int (4 : Int32)), (.int (own_tcs va x5 x6 x7))]))
          refine OGo.on (fun t k => XS.icmpNo X216.here hx rfl (hb hby at_148) rfl (teq (by unfold own_tcs; simp only [hc146, hc186, hc206, if_true, if_false] <;> decide)).2 k) ?_
          show OGo p e below s _ _ _ (T216.setTop (mkF m 151 #[.val (.int va), .val (.int vb), .val (.int vc), .val (.int vd), .val (.int vfl), .val (.int x5), .val (.int x6), .val (.int x7), .val (.int x8), .val (.int x9), .val (.ref b134), .val (.int (2 : Int32)), .val (.int (1 : Int32)), .val (.int (1 : Int32))] []))
          refine OGo.on (fun t k => XS.iconst X216.here hx rfl (hb hby at_151) k) ?_
          show OGo p e below s _ _ _ (T216.setTop (mkF m 152 #[.val (.int va), .val (.int vb), .val (.int vc), .val (.int vd), .val (.int vfl), .val (.int x5), .val (.int x6), .val (.int x7), .val (.int x8), .val (.int x9), .val (.ref b134), .val (.int (2 : Int32)), .val (.int (1 : Int32)), .val (.int (1 : Int32))] [(.int (1 : Int32))]))
          refine OGo.on (fun t k => XS.goto X216.here hx rfl (pc0 := 152) (pc' := 156) rfl (hb hby at_152) (by decide) (by decide) k) ?_
          show OGo p e below s _ _ _ (T216.setTop (mkF m 156 #[.val (.int va), .val (.int vb), .val (.int vc), .val (.int vd), .val (.int vfl), .val (.int x5), .val (.int x6), .val (.int x7), .val (.int x8), .val (.int x9), .val (.ref b134), .val (.int (2 : Int32)), .val (.int (1 : Int32)), .val (.int (1 : Int32))] [(.int (1 : Int32))]))
          exact OGo.retN X216 hx (t := .boolean) hret hlk (by simp) (hb hby at_156) ⟨rfl, N216⟩ (by decide) (by decide)
  have J59 : ∀ (x5 x6 x7 x8 : Int32), OGo p e below s (fun v h L => v = some (.int 1) ∧ Fr n0 L) 16 128 (s₁.setTop (mkF m 59 #[.val (.int va), .val (.int vb), .val (.int vc), .val (.int vd), .val (.int vfl), .val (.int x5), .val (.int x6), .val (.int x7), .val (.int x8), .unset, .unset, .unset, .unset, .unset] [])) := by
    intro x5 x6 x7 x8
    show OGo p e below s _ _ _ (s₁.setTop (mkF m 59 #[.val (.int va), .val (.int vb), .val (.int vc), .val (.int vd), .val (.int vfl), .val (.int x5), .val (.int x6), .val (.int x7), .val (.int x8), .unset, .unset, .unset, .unset, .unset] []))
    refine OGo.on (fun t k => XS.iload X0.here hx rfl (hb hby at_59) rfl k) ?_
    show OGo p e below s _ _ _ (s₁.setTop (mkF m 61 #[.val (.int va), .val (.int vb), .val (.int vc), .val (.int vd), .val (.int vfl), .val (.int x5), .val (.int x6), .val (.int x7), .val (.int x8), .unset, .unset, .unset, .unset, .unset] [(.int vfl)]))
    refine OGo.on (fun t k => XS.bipush X0.here hx rfl (hb hby at_61) k) ?_
    show OGo p e below s _ _ _ (s₁.setTop (mkF m 63 #[.val (.int va), .val (.int vb), .val (.int vc), .val (.int vd), .val (.int vfl), .val (.int x5), .val (.int x6), .val (.int x7), .val (.int x8), .unset, .unset, .unset, .unset, .unset] [(.int (16 : Int32)), (.int vfl)]))
    refine OGo.on (fun t k => XS.iand X0.here hx rfl (hb hby at_63) rfl k) ?_
    show OGo p e below s _ _ _ (s₁.setTop (mkF m 64 #[.val (.int va), .val (.int vb), .val (.int vc), .val (.int vd), .val (.int vfl), .val (.int x5), .val (.int x6), .val (.int x7), .val (.int x8), .unset, .unset, .unset, .unset, .unset] [(.int (vfl &&& (16 : Int32)))]))
    by_cases hc225 : (vfl &&& (16 : Int32)) = (0 : Int32)
    · refine OGo.on (fun t k => XS.ifYes X0.here hx rfl (pc0 := 64) (pc' := 71) rfl (hb hby at_64) rfl ((if0 _ _).trans (teq hc225).1) (by decide) (by decide) k) ?_
      show OGo p e below s _ _ _ (s₁.setTop (mkF m 71 #[.val (.int va), .val (.int vb), .val (.int vc), .val (.int vd), .val (.int vfl), .val (.int x5), .val (.int x6), .val (.int x7), .val (.int x8), .unset, .unset, .unset, .unset, .unset] []))
      refine OGo.on (fun t k => XS.iconst X0.here hx rfl (hb hby at_71) k) ?_
      show OGo p e below s _ _ _ (s₁.setTop (mkF m 72 #[.val (.int va), .val (.int vb), .val (.int vc), .val (.int vd), .val (.int vfl), .val (.int x5), .val (.int x6), .val (.int x7), .val (.int x8), .unset, .unset, .unset, .unset, .unset] [(.int (0 : Int32))]))
      refine OGo.on (fun t k => XS.istore X0.here hx rfl (hb hby at_72) rfl (l' := #[.val (.int va), .val (.int vb), .val (.int vc), .val (.int vd), .val (.int vfl), .val (.int x5), .val (.int x6), .val (.int x7), .val (.int x8), .val (.int (0 : Int32)), .unset, .unset, .unset, .unset]) rfl k) ?_
      show OGo p e below s _ _ _ (s₁.setTop (mkF m 74 #[.val (.int va), .val (.int vb), .val (.int vc), .val (.int vd), .val (.int vfl), .val (.int x5), .val (.int x6), .val (.int x7), .val (.int x8), .val (.int (0 : Int32)), .unset, .unset, .unset, .unset] []))
      exact J74 _ _ _ _ _
    · refine OGo.on (fun t k => XS.ifNo X0.here hx rfl (hb hby at_64) rfl ((if0 _ _).trans (feq hc225).1) k) ?_
      show OGo p e below s _ _ _ (s₁.setTop (mkF m 67 #[.val (.int va), .val (.int vb), .val (.int vc), .val (.int vd), .val (.int vfl), .val (.int x5), .val (.int x6), .val (.int x7), .val (.int x8), .unset, .unset, .unset, .unset, .unset] []))
      refine OGo.on (fun t k => XS.iconst X0.here hx rfl (hb hby at_67) k) ?_
      show OGo p e below s _ _ _ (s₁.setTop (mkF m 68 #[.val (.int va), .val (.int vb), .val (.int vc), .val (.int vd), .val (.int vfl), .val (.int x5), .val (.int x6), .val (.int x7), .val (.int x8), .unset, .unset, .unset, .unset, .unset] [(.int (1 : Int32))]))
      refine OGo.on (fun t k => XS.goto X0.here hx rfl (pc0 := 68) (pc' := 72) rfl (hb hby at_68) (by decide) (by decide) k) ?_
      show OGo p e below s _ _ _ (s₁.setTop (mkF m 72 #[.val (.int va), .val (.int vb), .val (.int vc), .val (.int vd), .val (.int vfl), .val (.int x5), .val (.int x6), .val (.int x7), .val (.int x8), .unset, .unset, .unset, .unset, .unset] [(.int (1 : Int32))]))
      refine OGo.on (fun t k => XS.istore X0.here hx rfl (hb hby at_72) rfl (l' := #[.val (.int va), .val (.int vb), .val (.int vc), .val (.int vd), .val (.int vfl), .val (.int x5), .val (.int x6), .val (.int x7), .val (.int x8), .val (.int (1 : Int32)), .unset, .unset, .unset, .unset]) rfl k) ?_
      show OGo p e below s _ _ _ (s₁.setTop (mkF m 74 #[.val (.int va), .val (.int vb), .val (.int vc), .val (.int vd), .val (.int vfl), .val (.int x5), .val (.int x6), .val (.int x7), .val (.int x8), .val (.int (1 : Int32)), .unset, .unset, .unset, .unset] []))
      exact J74 _ _ _ _ _
  have J44 : ∀ (x5 x6 x7 : Int32), OGo p e below s (fun v h L => v = some (.int 1) ∧ Fr n0 L) 16 128 (s₁.setTop (mkF m 44 #[.val (.int va), .val (.int vb), .val (.int vc), .val (.int vd), .val (.int vfl), .val (.int x5), .val (.int x6), .val (.int x7), .unset, .unset, .unset, .unset, .unset, .unset] [])) := by
    intro x5 x6 x7
    show OGo p e below s _ _ _ (s₁.setTop (mkF m 44 #[.val (.int va), .val (.int vb), .val (.int vc), .val (.int vd), .val (.int vfl), .val (.int x5), .val (.int x6), .val (.int x7), .unset, .unset, .unset, .unset, .unset, .unset] []))
    refine OGo.on (fun t k => XS.iload X0.here hx rfl (hb hby at_44) rfl k) ?_
    show OGo p e below s _ _ _ (s₁.setTop (mkF m 46 #[.val (.int va), .val (.int vb), .val (.int vc), .val (.int vd), .val (.int vfl), .val (.int x5), .val (.int x6), .val (.int x7), .unset, .unset, .unset, .unset, .unset, .unset] [(.int vfl)]))
    refine OGo.on (fun t k => XS.bipush X0.here hx rfl (hb hby at_46) k) ?_
    show OGo p e below s _ _ _ (s₁.setTop (mkF m 48 #[.val (.int va), .val (.int vb), .val (.int vc), .val (.int vd), .val (.int vfl), .val (.int x5), .val (.int x6), .val (.int x7), .unset, .unset, .unset, .unset, .unset, .unset] [(.int (8 : Int32)), (.int vfl)]))
    refine OGo.on (fun t k => XS.iand X0.here hx rfl (hb hby at_48) rfl k) ?_
    show OGo p e below s _ _ _ (s₁.setTop (mkF m 49 #[.val (.int va), .val (.int vb), .val (.int vc), .val (.int vd), .val (.int vfl), .val (.int x5), .val (.int x6), .val (.int x7), .unset, .unset, .unset, .unset, .unset, .unset] [(.int (vfl &&& (8 : Int32)))]))
    by_cases hc226 : (vfl &&& (8 : Int32)) = (0 : Int32)
    · refine OGo.on (fun t k => XS.ifYes X0.here hx rfl (pc0 := 49) (pc' := 56) rfl (hb hby at_49) rfl ((if0 _ _).trans (teq hc226).1) (by decide) (by decide) k) ?_
      show OGo p e below s _ _ _ (s₁.setTop (mkF m 56 #[.val (.int va), .val (.int vb), .val (.int vc), .val (.int vd), .val (.int vfl), .val (.int x5), .val (.int x6), .val (.int x7), .unset, .unset, .unset, .unset, .unset, .unset] []))
      refine OGo.on (fun t k => XS.iconst X0.here hx rfl (hb hby at_56) k) ?_
      show OGo p e below s _ _ _ (s₁.setTop (mkF m 57 #[.val (.int va), .val (.int vb), .val (.int vc), .val (.int vd), .val (.int vfl), .val (.int x5), .val (.int x6), .val (.int x7), .unset, .unset, .unset, .unset, .unset, .unset] [(.int (0 : Int32))]))
      refine OGo.on (fun t k => XS.istore X0.here hx rfl (hb hby at_57) rfl (l' := #[.val (.int va), .val (.int vb), .val (.int vc), .val (.int vd), .val (.int vfl), .val (.int x5), .val (.int x6), .val (.int x7), .val (.int (0 : Int32)), .unset, .unset, .unset, .unset, .unset]) rfl k) ?_
      show OGo p e below s _ _ _ (s₁.setTop (mkF m 59 #[.val (.int va), .val (.int vb), .val (.int vc), .val (.int vd), .val (.int vfl), .val (.int x5), .val (.int x6), .val (.int x7), .val (.int (0 : Int32)), .unset, .unset, .unset, .unset, .unset] []))
      exact J59 _ _ _ _
    · refine OGo.on (fun t k => XS.ifNo X0.here hx rfl (hb hby at_49) rfl ((if0 _ _).trans (feq hc226).1) k) ?_
      show OGo p e below s _ _ _ (s₁.setTop (mkF m 52 #[.val (.int va), .val (.int vb), .val (.int vc), .val (.int vd), .val (.int vfl), .val (.int x5), .val (.int x6), .val (.int x7), .unset, .unset, .unset, .unset, .unset, .unset] []))
      refine OGo.on (fun t k => XS.iconst X0.here hx rfl (hb hby at_52) k) ?_
      show OGo p e below s _ _ _ (s₁.setTop (mkF m 53 #[.val (.int va), .val (.int vb), .val (.int vc), .val (.int vd), .val (.int vfl), .val (.int x5), .val (.int x6), .val (.int x7), .unset, .unset, .unset, .unset, .unset, .unset] [(.int (1 : Int32))]))
      refine OGo.on (fun t k => XS.goto X0.here hx rfl (pc0 := 53) (pc' := 57) rfl (hb hby at_53) (by decide) (by decide) k) ?_
      show OGo p e below s _ _ _ (s₁.setTop (mkF m 57 #[.val (.int va), .val (.int vb), .val (.int vc), .val (.int vd), .val (.int vfl), .val (.int x5), .val (.int x6), .val (.int x7), .unset, .unset, .unset, .unset, .unset, .unset] [(.int (1 : Int32))]))
      refine OGo.on (fun t k => XS.istore X0.here hx rfl (hb hby at_57) rfl (l' := #[.val (.int va), .val (.int vb), .val (.int vc), .val (.int vd), .val (.int vfl), .val (.int x5), .val (.int x6), .val (.int x7), .val (.int (1 : Int32)), .unset, .unset, .unset, .unset, .unset]) rfl k) ?_
      show OGo p e below s _ _ _ (s₁.setTop (mkF m 59 #[.val (.int va), .val (.int vb), .val (.int vc), .val (.int vd), .val (.int vfl), .val (.int x5), .val (.int x6), .val (.int x7), .val (.int (1 : Int32)), .unset, .unset, .unset, .unset, .unset] []))
      exact J59 _ _ _ _
  have J29 : ∀ (x5 x6 : Int32), OGo p e below s (fun v h L => v = some (.int 1) ∧ Fr n0 L) 16 128 (s₁.setTop (mkF m 29 #[.val (.int va), .val (.int vb), .val (.int vc), .val (.int vd), .val (.int vfl), .val (.int x5), .val (.int x6), .unset, .unset, .unset, .unset, .unset, .unset, .unset] [])) := by
    intro x5 x6
    show OGo p e below s _ _ _ (s₁.setTop (mkF m 29 #[.val (.int va), .val (.int vb), .val (.int vc), .val (.int vd), .val (.int vfl), .val (.int x5), .val (.int x6), .unset, .unset, .unset, .unset, .unset, .unset, .unset] []))
    refine OGo.on (fun t k => XS.iload X0.here hx rfl (hb hby at_29) rfl k) ?_
    show OGo p e below s _ _ _ (s₁.setTop (mkF m 31 #[.val (.int va), .val (.int vb), .val (.int vc), .val (.int vd), .val (.int vfl), .val (.int x5), .val (.int x6), .unset, .unset, .unset, .unset, .unset, .unset, .unset] [(.int vfl)]))
    refine OGo.on (fun t k => XS.iconst X0.here hx rfl (hb hby at_31) k) ?_
    show OGo p e below s _ _ _ (s₁.setTop (mkF m 32 #[.val (.int va), .val (.int vb), .val (.int vc), .val (.int vd), .val (.int vfl), .val (.int x5), .val (.int x6), .unset, .unset, .unset, .unset, .unset, .unset, .unset] [(.int (4 : Int32)), (.int vfl)]))
    refine OGo.on (fun t k => XS.iand X0.here hx rfl (hb hby at_32) rfl k) ?_
    show OGo p e below s _ _ _ (s₁.setTop (mkF m 33 #[.val (.int va), .val (.int vb), .val (.int vc), .val (.int vd), .val (.int vfl), .val (.int x5), .val (.int x6), .unset, .unset, .unset, .unset, .unset, .unset, .unset] [(.int (vfl &&& (4 : Int32)))]))
    by_cases hc227 : (vfl &&& (4 : Int32)) = (0 : Int32)
    · refine OGo.on (fun t k => XS.ifYes X0.here hx rfl (pc0 := 33) (pc' := 41) rfl (hb hby at_33) rfl ((if0 _ _).trans (teq hc227).1) (by decide) (by decide) k) ?_
      show OGo p e below s _ _ _ (s₁.setTop (mkF m 41 #[.val (.int va), .val (.int vb), .val (.int vc), .val (.int vd), .val (.int vfl), .val (.int x5), .val (.int x6), .unset, .unset, .unset, .unset, .unset, .unset, .unset] []))
      refine OGo.on (fun t k => XS.iloadN X0.here hx rfl (hb hby at_41) rfl k) ?_
      show OGo p e below s _ _ _ (s₁.setTop (mkF m 42 #[.val (.int va), .val (.int vb), .val (.int vc), .val (.int vd), .val (.int vfl), .val (.int x5), .val (.int x6), .unset, .unset, .unset, .unset, .unset, .unset, .unset] [(.int vd)]))
      refine OGo.on (fun t k => XS.istore X0.here hx rfl (hb hby at_42) rfl (l' := #[.val (.int va), .val (.int vb), .val (.int vc), .val (.int vd), .val (.int vfl), .val (.int x5), .val (.int x6), .val (.int vd), .unset, .unset, .unset, .unset, .unset, .unset]) rfl k) ?_
      show OGo p e below s _ _ _ (s₁.setTop (mkF m 44 #[.val (.int va), .val (.int vb), .val (.int vc), .val (.int vd), .val (.int vfl), .val (.int x5), .val (.int x6), .val (.int vd), .unset, .unset, .unset, .unset, .unset, .unset] []))
      exact J44 _ _ _
    · refine OGo.on (fun t k => XS.ifNo X0.here hx rfl (hb hby at_33) rfl ((if0 _ _).trans (feq hc227).1) k) ?_
      show OGo p e below s _ _ _ (s₁.setTop (mkF m 36 #[.val (.int va), .val (.int vb), .val (.int vc), .val (.int vd), .val (.int vfl), .val (.int x5), .val (.int x6), .unset, .unset, .unset, .unset, .unset, .unset, .unset] []))
      refine OGo.on (fun t k => X0.ldcI hx hown (mvT hZ (hw _ (List.mem_of_getElem? (i := 26) rfl))) (g := (mkF m 36 #[.val (.int va), .val (.int vb), .val (.int vc), .val (.int vd), .val (.int vfl), .val (.int x5), .val (.int x6), .unset, .unset, .unset, .unset, .unset, .unset, .unset] [])) rfl (hb hby at_36) k) ?_
      show OGo p e below s _ _ _ (s₁.setTop (mkF m 38 #[.val (.int va), .val (.int vb), .val (.int vc), .val (.int vd), .val (.int vfl), .val (.int x5), .val (.int x6), .unset, .unset, .unset, .unset, .unset, .unset, .unset] [(.int (-2147483648 : Int32))]))
      refine OGo.on (fun t k => XS.goto X0.here hx rfl (pc0 := 38) (pc' := 42) rfl (hb hby at_38) (by decide) (by decide) k) ?_
      show OGo p e below s _ _ _ (s₁.setTop (mkF m 42 #[.val (.int va), .val (.int vb), .val (.int vc), .val (.int vd), .val (.int vfl), .val (.int x5), .val (.int x6), .unset, .unset, .unset, .unset, .unset, .unset, .unset] [(.int (-2147483648 : Int32))]))
      refine OGo.on (fun t k => XS.istore X0.here hx rfl (hb hby at_42) rfl (l' := #[.val (.int va), .val (.int vb), .val (.int vc), .val (.int vd), .val (.int vfl), .val (.int x5), .val (.int x6), .val (.int (-2147483648 : Int32)), .unset, .unset, .unset, .unset, .unset, .unset]) rfl k) ?_
      show OGo p e below s _ _ _ (s₁.setTop (mkF m 44 #[.val (.int va), .val (.int vb), .val (.int vc), .val (.int vd), .val (.int vfl), .val (.int x5), .val (.int x6), .val (.int (-2147483648 : Int32)), .unset, .unset, .unset, .unset, .unset, .unset] []))
      exact J44 _ _ _
  have J14 : ∀ (x5 : Int32), OGo p e below s (fun v h L => v = some (.int 1) ∧ Fr n0 L) 16 128 (s₁.setTop (mkF m 14 #[.val (.int va), .val (.int vb), .val (.int vc), .val (.int vd), .val (.int vfl), .val (.int x5), .unset, .unset, .unset, .unset, .unset, .unset, .unset, .unset] [])) := by
    intro x5
    show OGo p e below s _ _ _ (s₁.setTop (mkF m 14 #[.val (.int va), .val (.int vb), .val (.int vc), .val (.int vd), .val (.int vfl), .val (.int x5), .unset, .unset, .unset, .unset, .unset, .unset, .unset, .unset] []))
    refine OGo.on (fun t k => XS.iload X0.here hx rfl (hb hby at_14) rfl k) ?_
    show OGo p e below s _ _ _ (s₁.setTop (mkF m 16 #[.val (.int va), .val (.int vb), .val (.int vc), .val (.int vd), .val (.int vfl), .val (.int x5), .unset, .unset, .unset, .unset, .unset, .unset, .unset, .unset] [(.int vfl)]))
    refine OGo.on (fun t k => XS.iconst X0.here hx rfl (hb hby at_16) k) ?_
    show OGo p e below s _ _ _ (s₁.setTop (mkF m 17 #[.val (.int va), .val (.int vb), .val (.int vc), .val (.int vd), .val (.int vfl), .val (.int x5), .unset, .unset, .unset, .unset, .unset, .unset, .unset, .unset] [(.int (2 : Int32)), (.int vfl)]))
    refine OGo.on (fun t k => XS.iand X0.here hx rfl (hb hby at_17) rfl k) ?_
    show OGo p e below s _ _ _ (s₁.setTop (mkF m 18 #[.val (.int va), .val (.int vb), .val (.int vc), .val (.int vd), .val (.int vfl), .val (.int x5), .unset, .unset, .unset, .unset, .unset, .unset, .unset, .unset] [(.int (vfl &&& (2 : Int32)))]))
    by_cases hc228 : (vfl &&& (2 : Int32)) = (0 : Int32)
    · refine OGo.on (fun t k => XS.ifYes X0.here hx rfl (pc0 := 18) (pc' := 26) rfl (hb hby at_18) rfl ((if0 _ _).trans (teq hc228).1) (by decide) (by decide) k) ?_
      show OGo p e below s _ _ _ (s₁.setTop (mkF m 26 #[.val (.int va), .val (.int vb), .val (.int vc), .val (.int vd), .val (.int vfl), .val (.int x5), .unset, .unset, .unset, .unset, .unset, .unset, .unset, .unset] []))
      refine OGo.on (fun t k => XS.iloadN X0.here hx rfl (hb hby at_26) rfl k) ?_
      show OGo p e below s _ _ _ (s₁.setTop (mkF m 27 #[.val (.int va), .val (.int vb), .val (.int vc), .val (.int vd), .val (.int vfl), .val (.int x5), .unset, .unset, .unset, .unset, .unset, .unset, .unset, .unset] [(.int vc)]))
      refine OGo.on (fun t k => XS.istore X0.here hx rfl (hb hby at_27) rfl (l' := #[.val (.int va), .val (.int vb), .val (.int vc), .val (.int vd), .val (.int vfl), .val (.int x5), .val (.int vc), .unset, .unset, .unset, .unset, .unset, .unset, .unset]) rfl k) ?_
      show OGo p e below s _ _ _ (s₁.setTop (mkF m 29 #[.val (.int va), .val (.int vb), .val (.int vc), .val (.int vd), .val (.int vfl), .val (.int x5), .val (.int vc), .unset, .unset, .unset, .unset, .unset, .unset, .unset] []))
      exact J29 _ _
    · refine OGo.on (fun t k => XS.ifNo X0.here hx rfl (hb hby at_18) rfl ((if0 _ _).trans (feq hc228).1) k) ?_
      show OGo p e below s _ _ _ (s₁.setTop (mkF m 21 #[.val (.int va), .val (.int vb), .val (.int vc), .val (.int vd), .val (.int vfl), .val (.int x5), .unset, .unset, .unset, .unset, .unset, .unset, .unset, .unset] []))
      refine OGo.on (fun t k => X0.ldcI hx hown (mvT hZ (hw _ (List.mem_of_getElem? (i := 26) rfl))) (g := (mkF m 21 #[.val (.int va), .val (.int vb), .val (.int vc), .val (.int vd), .val (.int vfl), .val (.int x5), .unset, .unset, .unset, .unset, .unset, .unset, .unset, .unset] [])) rfl (hb hby at_21) k) ?_
      show OGo p e below s _ _ _ (s₁.setTop (mkF m 23 #[.val (.int va), .val (.int vb), .val (.int vc), .val (.int vd), .val (.int vfl), .val (.int x5), .unset, .unset, .unset, .unset, .unset, .unset, .unset, .unset] [(.int (-2147483648 : Int32))]))
      refine OGo.on (fun t k => XS.goto X0.here hx rfl (pc0 := 23) (pc' := 27) rfl (hb hby at_23) (by decide) (by decide) k) ?_
      show OGo p e below s _ _ _ (s₁.setTop (mkF m 27 #[.val (.int va), .val (.int vb), .val (.int vc), .val (.int vd), .val (.int vfl), .val (.int x5), .unset, .unset, .unset, .unset, .unset, .unset, .unset, .unset] [(.int (-2147483648 : Int32))]))
      refine OGo.on (fun t k => XS.istore X0.here hx rfl (hb hby at_27) rfl (l' := #[.val (.int va), .val (.int vb), .val (.int vc), .val (.int vd), .val (.int vfl), .val (.int x5), .val (.int (-2147483648 : Int32)), .unset, .unset, .unset, .unset, .unset, .unset, .unset]) rfl k) ?_
      show OGo p e below s _ _ _ (s₁.setTop (mkF m 29 #[.val (.int va), .val (.int vb), .val (.int vc), .val (.int vd), .val (.int vfl), .val (.int x5), .val (.int (-2147483648 : Int32)), .unset, .unset, .unset, .unset, .unset, .unset, .unset] []))
      exact J29 _ _
  refine OGo.on (fun t k => XS.iload X0.here hx rfl (hb hby at_0) rfl k) ?_
  show OGo p e below s _ _ _ (s₁.setTop (mkF m 2 #[.val (.int va), .val (.int vb), .val (.int vc), .val (.int vd), .val (.int vfl), .unset, .unset, .unset, .unset, .unset, .unset, .unset, .unset, .unset] [(.int vfl)]))
  refine OGo.on (fun t k => XS.iconst X0.here hx rfl (hb hby at_2) k) ?_
  show OGo p e below s _ _ _ (s₁.setTop (mkF m 3 #[.val (.int va), .val (.int vb), .val (.int vc), .val (.int vd), .val (.int vfl), .unset, .unset, .unset, .unset, .unset, .unset, .unset, .unset, .unset] [(.int (1 : Int32)), (.int vfl)]))
  refine OGo.on (fun t k => XS.iand X0.here hx rfl (hb hby at_3) rfl k) ?_
  show OGo p e below s _ _ _ (s₁.setTop (mkF m 4 #[.val (.int va), .val (.int vb), .val (.int vc), .val (.int vd), .val (.int vfl), .unset, .unset, .unset, .unset, .unset, .unset, .unset, .unset, .unset] [(.int (vfl &&& (1 : Int32)))]))
  by_cases hc229 : (vfl &&& (1 : Int32)) = (0 : Int32)
  · refine OGo.on (fun t k => XS.ifYes X0.here hx rfl (pc0 := 4) (pc' := 11) rfl (hb hby at_4) rfl ((if0 _ _).trans (teq hc229).1) (by decide) (by decide) k) ?_
    show OGo p e below s _ _ _ (s₁.setTop (mkF m 11 #[.val (.int va), .val (.int vb), .val (.int vc), .val (.int vd), .val (.int vfl), .unset, .unset, .unset, .unset, .unset, .unset, .unset, .unset, .unset] []))
    refine OGo.on (fun t k => XS.iloadN X0.here hx rfl (hb hby at_11) rfl k) ?_
    show OGo p e below s _ _ _ (s₁.setTop (mkF m 12 #[.val (.int va), .val (.int vb), .val (.int vc), .val (.int vd), .val (.int vfl), .unset, .unset, .unset, .unset, .unset, .unset, .unset, .unset, .unset] [(.int vb)]))
    refine OGo.on (fun t k => XS.istore X0.here hx rfl (hb hby at_12) rfl (l' := #[.val (.int va), .val (.int vb), .val (.int vc), .val (.int vd), .val (.int vfl), .val (.int vb), .unset, .unset, .unset, .unset, .unset, .unset, .unset, .unset]) rfl k) ?_
    show OGo p e below s _ _ _ (s₁.setTop (mkF m 14 #[.val (.int va), .val (.int vb), .val (.int vc), .val (.int vd), .val (.int vfl), .val (.int vb), .unset, .unset, .unset, .unset, .unset, .unset, .unset, .unset] []))
    exact J14 _
  · refine OGo.on (fun t k => XS.ifNo X0.here hx rfl (hb hby at_4) rfl ((if0 _ _).trans (feq hc229).1) k) ?_
    show OGo p e below s _ _ _ (s₁.setTop (mkF m 7 #[.val (.int va), .val (.int vb), .val (.int vc), .val (.int vd), .val (.int vfl), .unset, .unset, .unset, .unset, .unset, .unset, .unset, .unset, .unset] []))
    refine OGo.on (fun t k => XS.iloadN X0.here hx rfl (hb hby at_7) rfl k) ?_
    show OGo p e below s _ _ _ (s₁.setTop (mkF m 8 #[.val (.int va), .val (.int vb), .val (.int vc), .val (.int vd), .val (.int vfl), .unset, .unset, .unset, .unset, .unset, .unset, .unset, .unset, .unset] [(.int va)]))
    refine OGo.on (fun t k => XS.goto X0.here hx rfl (pc0 := 8) (pc' := 12) rfl (hb hby at_8) (by decide) (by decide) k) ?_
    show OGo p e below s _ _ _ (s₁.setTop (mkF m 12 #[.val (.int va), .val (.int vb), .val (.int vc), .val (.int vd), .val (.int vfl), .unset, .unset, .unset, .unset, .unset, .unset, .unset, .unset, .unset] [(.int va)]))
    refine OGo.on (fun t k => XS.istore X0.here hx rfl (hb hby at_12) rfl (l' := #[.val (.int va), .val (.int vb), .val (.int vc), .val (.int vd), .val (.int vfl), .val (.int va), .unset, .unset, .unset, .unset, .unset, .unset, .unset, .unset]) rfl k) ?_
    show OGo p e below s _ _ _ (s₁.setTop (mkF m 14 #[.val (.int va), .val (.int vb), .val (.int vc), .val (.int vd), .val (.int vfl), .val (.int va), .unset, .unset, .unset, .unset, .unset, .unset, .unset, .unset] []))
    exact J14 _
set_option maxRecDepth 65536 in
set_option maxHeartbeats 40000000 in
theorem comes_1 {Post : Tables → Env → Array Value → State → Outcome → State → Prop} (hpost : ∀ tb e args s v u, (limb_1_1.after args s (.returned v) u = true ∧ limb_1_2.after args s (.returned v) u = true ∧ True) → FrameEnd s (.returned v) u (Jvm.fieldLocs frame_1_writes args s ++ Jvm.arrayLocs frame_1_arrays args s ++ Jvm.staticLocs frame_1_statics s) 16 128 → Post tb e args s (.returned v) u) :
    ArmFor flags0 classFile x code maxLocals ret World_1 tables_1 room_1 Calls_1 rest_1 Pre_1 Post := by
  intro l hfl _ _ p e ha hc hk s m args below hf hA hF happ hP
  obtain ⟨hcalls, hrest, hpre⟩ := hP
  obtain ⟨-, -, -, hnamed, -, -, -, hat⟩ := (Spec.applies_iff hf).mp happ
  obtain ⟨hg, hn⟩ := and_e (Cond.before_iff.mp (show (Jvm.Cond.and given_1 narrow_1).before args s = true from hpre))
  obtain ⟨gg230, gg231⟩ := and_e hg
  obtain ⟨gg232, gg233⟩ := and_e gg231
  obtain ⟨gg234, gg235⟩ := and_e gg233
  obtain ⟨gg236, gg237⟩ := and_e gg235
  obtain ⟨gg238, gg239⟩ := and_e gg237
  obtain ⟨w0, w1, w2, w3, w4, rfl⟩ : ∃ w0 w1 w2 w3 w4 : Value, args = #[w0, w1, w2, w3, w4] := by
    have hs : args.size = 5 := by simpa [Cond.value, given_1] using gg230
    obtain ⟨L⟩ := args
    match L, hs with
    | [w0, w1, w2, w3, w4], _ => exact ⟨w0, w1, w2, w3, w4, rfl⟩
  have hw := fun d (hd : d ∈ tables_1) => atoms_spec (ws := Jvm.Cond.code x code maxLocals ret :: tables_1) hat d (List.mem_cons_of_mem _ hd)
  obtain ⟨i0, ei0⟩ := is_v gg232
  obtain rfl : w0 = (.int i0) := Option.some.inj ei0
  obtain ⟨i1, ei1⟩ := is_v gg234
  obtain rfl : w1 = (.int i1) := Option.some.inj ei1
  obtain ⟨i2, ei2⟩ := is_v gg236
  obtain rfl : w2 = (.int i2) := Option.some.inj ei2
  obtain ⟨i3, ei3⟩ := is_v gg238
  obtain rfl : w3 = (.int i3) := Option.some.inj ei3
  obtain ⟨i4, ei4⟩ := is_v gg239
  obtain rfl : w4 = (.int i4) := Option.some.inj ei4
  obtain ⟨n, o, h1, h2, h3, _, L, rfl, ⟨rfl, N⟩, hq⟩ := own_law l s _ hw tables_1 i0 i1 i2 i3 i4 s.heap s.heap.size (Nat.le_refl _)  p e ha hc hk s m _ below hf ((Spec.applies_iff_loose hf).mp happ).1 ⟨rfl, State.Warmed39.refl s, rfl⟩ trivial
  refine ⟨n, _, h1, h2, h3, hpost _ _ _ _ _ _ ⟨Cond.after_iff.mpr rfl, Cond.after_iff.mpr (eq_i res_at (Term.int_eval (1)) rfl), trivial⟩ ⟨hq.1, hq.2.1, (hq.2.2.sift fun y hy => Or.inr (N y hy)).mono (by decide) (by decide)⟩⟩
theorem main_1_1 : Claimed_1_1 := comes_1 fun _ _ _ _ _ _ h hF => ⟨h.1, hF⟩
theorem main_1_2 : Claimed_1_2 := comes_1 fun _ _ _ _ _ _ h hF => ⟨h.2.1, hF⟩
end Jvm.Pilot.@@N@@
namespace Jvm.Pilot.@@N@@
open Jvm Jvm.ClassFile Sem Op Lib Jvm.Free Jvm.Stand Jvm.Pilot.@@N@@.Jvm.D
/-! MADE BY PROGRAM (witnessworld.py) out of the Statement's table words and the real class files: 10 classes; the members and pool entries that the words name. The judged class is class 1, her method 1. -/
namespace start1
open Jvm.ClassFile
def u (s : String) : CpInfo := .utf8 (stringToUtf16 s)
/-- a pool by its gaps: so many unusable entries, then the entry; so many at the end -/
def gap : Nat → List CpInfo → List CpInfo
  | 0, r => r
  | n + 1, r => .unusable :: gap n r
def poolList (es : List (Nat × CpInfo)) (last : Nat) : List CpInfo := es.foldr (fun e r => gap e.1 (e.2 :: r)) (gap last [])
def pool (es : List (Nat × CpInfo)) (last : Nat) : Array CpInfo := ⟨poolList es last⟩
def fileOf (pool : Array CpInfo) (this : Nat) (attrs : Array Attribute := #[]) (ms : Array MethodInfo := #[]) (fl : Nat := 33) (sup : Nat := 0) (ifs : Array Nat := #[]) (fds : Array FieldInfo := #[]) : ClassFile where
  minorVersion := 0
  majorVersion := 65
  constantPool := pool
  accessFlags := fl
  thisClass := this
  superClass := sup
  interfaces := ifs
  fields := fds
  methods := ms
  attributes := attrs
def plain (name : String) (sup : Option ClassId) : Class where
  name := name
  kind := .ordinary
  loader := none
  accessFlags := 33
  super := sup
  interfaces := #[]
  cf := none
  fields := #[]
  methods := #[]
  instanceTypes := #[]
  staticTypes := #[]
  resolved := #[]
  callSites := []
  init := .initialized
  statics := none
  mirror := none

def pool0 : Array CpInfo := pool [(5, u "<init>"), (0, u "()V"), (1, .class_ 10), (1, u "java/lang/Object")] 113

def k0c0 : Code := { maxStack := 0, maxLocals := 1, code := object_method_1_code, exceptionTable := #[], attributes := #[] }
def k0m0 : Method := { name := "<init>", desc := "()V", sig := { parameters := [], returnType := none }, accessFlags := 1, code := some k0c0 }
/-- java/lang/Object -/
def k0 : Class := { plain "java/lang/Object" none with
  accessFlags := 33
  interfaces := #[]
  cf := some (fileOf pool0 8 #[] #[{ accessFlags := 1, nameIndex := 5, descriptorIndex := 6, attributes := #[] }] 33 0 #[] #[])
  fields := #[]
  methods := #[k0m0]
  instanceTypes := #[]
  staticTypes := #[]
  resolved := Array.replicate 124 none
  statics := none }

def pool1 : Array CpInfo := pool [(2, .class_ 4), (1, u "java/lang/Object"), (0, u "<init>"), (0, u "()V"), (0, .class_ 8), (0, u "com/example/metrilog/metrilog/TemporalMapping"), (0, .integer 2147483648), (0, .methodref 7 11), (0, .nameAndType 5 12), (0, u "(IIIIZZ)V"), (0, .methodref 7 14), (0, .nameAndType 15 16), (0, u "timeColumns"), (0, u "()I"), (0, .class_ 18), (0, u "com/example/metrilog/metrilog/TemporalMappingTimeColumnsPinLaw"), (2, u "law"), (0, u "(IIIII)Z")] 3

def k1m0 : Method := { name := "<init>", desc := "()V", sig := { parameters := [], returnType := none }, accessFlags := 1, code := none }
def k1c1 : Code := { maxStack := 8, maxLocals := 14, code := code, exceptionTable := #[], attributes := #[] }
def k1m1 : Method := { name := "law", desc := "(IIIII)Z", sig := { parameters := [.int, .int, .int, .int, .int], returnType := some .boolean }, accessFlags := 9, code := some k1c1 }
/-- com/example/metrilog/metrilog/TemporalMappingTimeColumnsPinLaw -/
def k1 : Class := { plain "com/example/metrilog/metrilog/TemporalMappingTimeColumnsPinLaw" (some 0) with
  accessFlags := 49
  interfaces := #[]
  cf := some (fileOf pool1 17 #[] #[{ accessFlags := 1, nameIndex := 5, descriptorIndex := 6, attributes := #[] }, { accessFlags := 9, nameIndex := 21, descriptorIndex := 22, attributes := #[] }] 49 2 #[] #[])
  fields := #[]
  methods := #[k1m0, k1m1]
  instanceTypes := #[]
  staticTypes := #[]
  resolved := Array.replicate 26 none
  statics := none }

def pool2 : Array CpInfo := pool [(1, .methodref 2 3), (0, .class_ 4), (0, .nameAndType 5 6), (0, u "java/lang/Object"), (0, u "<init>"), (0, u "()V"), (0, .class_ 8), (0, u "java/lang/Record")] 13

def k2c0 : Code := { maxStack := 1, maxLocals := 1, code := jdk_30_method_1_code, exceptionTable := #[], attributes := #[] }
def k2m0 : Method := { name := "<init>", desc := "()V", sig := { parameters := [], returnType := none }, accessFlags := 4, code := some k2c0 }
/-- java/lang/Record -/
def k2 : Class := { plain "java/lang/Record" (some 0) with
  accessFlags := 1057
  interfaces := #[]
  cf := some (fileOf pool2 7 #[] #[{ accessFlags := 4, nameIndex := 5, descriptorIndex := 6, attributes := #[] }] 1057 2 #[] #[])
  fields := #[]
  methods := #[k2m0]
  instanceTypes := #[]
  staticTypes := #[]
  resolved := Array.replicate 22 none
  statics := none }

def pool3 : Array CpInfo := pool [(3, .methodref 4 5), (0, .class_ 6), (0, .nameAndType 7 8), (0, u "java/lang/Record"), (0, u "<init>"), (0, u "()V"), (0, .fieldref 10 11), (0, .class_ 12), (0, .nameAndType 13 14), (0, u "com/example/metrilog/metrilog/TemporalMapping"), (0, u "startColumn"), (0, u "I"), (0, .fieldref 10 16), (0, .nameAndType 17 14), (0, u "endColumn"), (0, .fieldref 10 19), (0, .nameAndType 20 14), (0, u "startClosedColumn"), (0, .fieldref 10 22), (0, .nameAndType 23 14), (0, u "endClosedColumn"), (0, .fieldref 10 25), (0, .nameAndType 26 27), (0, u "startClosed"), (0, u "Z"), (0, .fieldref 10 29), (0, .nameAndType 30 27), (0, u "endClosed"), (0, .integer 2147483648), (2, u "(IIIIZZ)V"), (14, u "()I"), (2, u "timeColumns"), (26, u "FROM_TEMPLATE")] 46

def k3c0 : Code := { maxStack := 2, maxLocals := 7, code := prog_94_method_1_code, exceptionTable := #[], attributes := #[] }
def k3m0 : Method := { name := "<init>", desc := "(IIIIZZ)V", sig := { parameters := [.int, .int, .int, .int, .boolean, .boolean], returnType := none }, accessFlags := 0, code := some k3c0 }
def k3c1 : Code := { maxStack := 4, maxLocals := 7, code := prog_94_method_3_code, exceptionTable := #[], attributes := #[] }
def k3m1 : Method := { name := "timeColumns", desc := "()I", sig := { parameters := [], returnType := some .int }, accessFlags := 0, code := some k3c1 }
/-- com/example/metrilog/metrilog/TemporalMapping -/
def k3 : Class := { plain "com/example/metrilog/metrilog/TemporalMapping" (some 2) with
  accessFlags := 48
  interfaces := #[]
  cf := some (fileOf pool3 10 #[] #[{ accessFlags := 0, nameIndex := 7, descriptorIndex := 34, attributes := #[] }, { accessFlags := 0, nameIndex := 52, descriptorIndex := 49, attributes := #[] }] 48 4 #[] #[{ accessFlags := 18, nameIndex := 13, descriptorIndex := 14, attributes := #[] }, { accessFlags := 18, nameIndex := 17, descriptorIndex := 14, attributes := #[] }, { accessFlags := 18, nameIndex := 20, descriptorIndex := 14, attributes := #[] }, { accessFlags := 18, nameIndex := 23, descriptorIndex := 14, attributes := #[] }, { accessFlags := 18, nameIndex := 26, descriptorIndex := 27, attributes := #[] }, { accessFlags := 18, nameIndex := 30, descriptorIndex := 27, attributes := #[] }, { accessFlags := 24, nameIndex := 79, descriptorIndex := 14, attributes := #[] }])
  fields := #[{ name := "startColumn", type := .int, accessFlags := 18, slot := 0, constantValue := 0 }, { name := "endColumn", type := .int, accessFlags := 18, slot := 1, constantValue := 0 }, { name := "startClosedColumn", type := .int, accessFlags := 18, slot := 2, constantValue := 0 }, { name := "endClosedColumn", type := .int, accessFlags := 18, slot := 3, constantValue := 0 }, { name := "startClosed", type := .boolean, accessFlags := 18, slot := 4, constantValue := 0 }, { name := "endClosed", type := .boolean, accessFlags := 18, slot := 5, constantValue := 0 }, { name := "FROM_TEMPLATE", type := .int, accessFlags := 24, slot := 0, constantValue := 0 }]
  methods := #[k3m0, k3m1]
  instanceTypes := #[.int, .int, .int, .int, .boolean, .boolean]
  staticTypes := #[.int]
  resolved := Array.replicate 126 none
  statics := none }

def pool4 : Array CpInfo := pool [(1, u "java/lang/Cloneable"), (0, .class_ 1), (0, u "java/lang/Object"), (0, .class_ 3)] 3

/-- java/lang/Cloneable -/
def k4 : Class := { plain "java/lang/Cloneable" (some 0) with
  accessFlags := 1537
  interfaces := #[]
  cf := some (fileOf pool4 2 #[] #[] 1537 4 #[] #[])
  fields := #[]
  methods := #[]
  instanceTypes := #[]
  staticTypes := #[]
  resolved := Array.replicate 8 none
  statics := none }

def pool5 : Array CpInfo := pool [(1, u "java/io/Serializable"), (0, .class_ 1), (0, u "java/lang/Object"), (0, .class_ 3)] 3

/-- java/io/Serializable -/
def k5 : Class := { plain "java/io/Serializable" (some 0) with
  accessFlags := 1537
  interfaces := #[]
  cf := some (fileOf pool5 2 #[] #[] 1537 4 #[] #[])
  fields := #[]
  methods := #[]
  instanceTypes := #[]
  staticTypes := #[]
  resolved := Array.replicate 8 none
  statics := none }

/-- the primitive byte -/
def k6 : Class := { plain "byte" none with kind := .primitive 'B', accessFlags := 0x411 }
/-- [B -/
def k7 : Class := { plain "[B" (some 0) with kind := .array 6 .byte, interfaces := #[4, 5], accessFlags := 1041 }

/-- the primitive int -/
def k8 : Class := { plain "int" none with kind := .primitive 'I', accessFlags := 0x411 }
/-- [I -/
def k9 : Class := { plain "[I" (some 0) with kind := .array 8 .int, interfaces := #[4, 5], accessFlags := 1041 }

def heap : Heap := #[]
def classes : Array Class := #[k0, k1, k2, k3, k4, k5, k6, k7, k8, k9]
def interned : List (Array UInt16 × Addr) := []
def slotsUsed : Nat := 0
def theMethod : MethodId := ⟨1, 1⟩
def args0 : Array Value := #[.int 5, .int 3, .int 0, .int 1, .int 2]
def aboutOver (below : List Frame) : State where
  vm := { classes := classes, interned := interned.toArray }
  heap := heap
  slotsUsed := slotsUsed
  threads := #[{ frames := .invoking theMethod args0 :: below }]
def below0 : List Frame := [.native { method := ⟨0, 0⟩, args := #[] }]
def about1 : State := aboutOver below0
def p0 : Program := .bare "" "" ""
def e0 : Env := launch0.env 0 0 0
theorem w_frames : about1.frames = Frame.invoking theMethod args0 :: below0 := rfl
set_option maxRecDepth 65536 in
theorem w_args : argsFit about1.vm theMethod args0 = true := by decide +kernel
set_option maxRecDepth 65536 in
theorem w_heap : heapFits about1 = true := by decide +kernel
set_option maxRecDepth 65536 in
theorem w_runnable : about1.curStatus? = some .runnable := by decide +kernel
set_option maxRecDepth 65536 in
theorem w_alone : about1.alone = true := by decide +kernel
set_option maxRecDepth 65536 in
theorem w_named : about1.methodNamed? x = some theMethod := by decide +kernel
set_option maxRecDepth 65536 in
theorem w_hears : about1.hears theMethod below0 = true := by decide +kernel
set_option maxRecDepth 65536 in
theorem w_ripe : about1.ripe theMethod args0 below0 = true := by decide +kernel
theorem w_running : about1.status = .running := rfl
set_option maxRecDepth 65536 in
theorem w_room : about1.hasRoom e0.platform room_1 = true :=
  launch0.hasRoom_least _ room_1 (by decide +kernel) (by decide +kernel) (by decide +kernel) (by decide +kernel) (by decide +kernel) (by decide +kernel)
theorem allAtoms_all (ts : List Jvm.Cond) (a : Array Jvm.Value) (st : Jvm.State) : (allAtoms ts).before a st = ts.all (fun c => c.before a st) := by
  induction ts with
  | nil => rfl
  | cons c t ih =>
    show (Jvm.Cond.and c (allAtoms t)).before a st = _
    rw [Jvm.Cond.before_and, ih, List.all_cons]
def words1 : List Jvm.Cond := Jvm.Cond.code x code maxLocals ret :: tables_1
/-- a 'code' word, met by the world's own term for the bytes: nothing is compared byte by byte -/
theorem code_word {y : MethodName} {bytes : ByteArray} {mx : Nat} {rt : Option FieldType} {a : Array Value} {s : State} {m : MethodId} {meth : Method} {c : Code} (h1 : s.methodNamed? y = some m) (h2 : s.vm.method? m = some meth) (h3 : meth.code = some c) (h4 : c.code = bytes)
    (h5 : (c.maxLocals == mx && c.exceptionTable.isEmpty && decide (c.maxStack ≤ mostOperands) && decide (meth.sig.returnType = rt) && !meth.locks && decide (parseMethodDescriptor y.desc = some meth.sig)) = true) : (Jvm.Cond.code y bytes mx rt).before a s = true := by
  simp only [Bool.and_eq_true, beq_iff_eq, Bool.not_eq_true', decide_eq_true_eq] at h5
  obtain ⟨⟨⟨⟨⟨g1, g2⟩, g3⟩, g4⟩, g5⟩, g6⟩ := h5
  simp [Cond.before, Cond.holds, Cond.value, h1, h2, h3, h4, g1, g2, g3, g4, g5, g6]
def isCode : Jvm.Cond → Bool
  | .code _ _ _ _ => true
  | _ => false
theorem all_split {L : List Jvm.Cond} {P : Jvm.Cond → Bool} (h1 : L.all (fun c => isCode c || P c) = true) (h2 : ∀ c ∈ L.filter isCode, P c = true) : L.all P = true := by
  refine List.all_eq_true.mpr fun c hc => ?_
  have h := List.all_eq_true.mp h1 c hc
  rcases Bool.eq_false_or_eq_true (isCode c) with hi | hi
  · exact h2 c (List.mem_filter.mpr ⟨hc, hi⟩)
  · simpa [hi] using h
set_option maxRecDepth 65536 in
theorem w_c0 : (Jvm.Cond.code x code maxLocals ret).before args0 about1 = true := code_word (m := ⟨1, 1⟩) (meth := k1m1) (c := k1c1) (by decide +kernel) rfl rfl rfl (by decide +kernel)
set_option maxRecDepth 65536 in
theorem w_c1 : (Jvm.Cond.code ({ cls := "com/example/metrilog/metrilog/TemporalMapping", name := "<init>", desc := "(IIIIZZ)V" } : Jvm.MethodName) prog_94_method_1_code (7 : Nat) (Option.none : Option Jvm.ClassFile.FieldType)).before args0 about1 = true := code_word (m := ⟨3, 0⟩) (meth := k3m0) (c := k3c0) (by decide +kernel) rfl rfl rfl (by decide +kernel)
set_option maxRecDepth 65536 in
theorem w_c2 : (Jvm.Cond.code ({ cls := "java/lang/Record", name := "<init>", desc := "()V" } : Jvm.MethodName) jdk_30_method_1_code (1 : Nat) (Option.none : Option Jvm.ClassFile.FieldType)).before args0 about1 = true := code_word (m := ⟨2, 0⟩) (meth := k2m0) (c := k2c0) (by decide +kernel) rfl rfl rfl (by decide +kernel)
set_option maxRecDepth 65536 in
theorem w_c3 : (Jvm.Cond.code ({ cls := "java/lang/Object", name := "<init>", desc := "()V" } : Jvm.MethodName) object_method_1_code (1 : Nat) (Option.none : Option Jvm.ClassFile.FieldType)).before args0 about1 = true := code_word (m := ⟨0, 0⟩) (meth := k0m0) (c := k0c0) (by decide +kernel) rfl rfl rfl (by decide +kernel)
set_option maxRecDepth 65536 in
theorem w_c4 : (Jvm.Cond.code ({ cls := "com/example/metrilog/metrilog/TemporalMapping", name := "timeColumns", desc := "()I" } : Jvm.MethodName) prog_94_method_3_code (7 : Nat) (Option.some Jvm.ClassFile.FieldType.int)).before args0 about1 = true := code_word (m := ⟨3, 1⟩) (meth := k3m1) (c := k3c1) (by decide +kernel) rfl rfl rfl (by decide +kernel)
def codes1 : List Jvm.Cond := [Jvm.Cond.code x code maxLocals ret, Jvm.Cond.code ({ cls := "com/example/metrilog/metrilog/TemporalMapping", name := "<init>", desc := "(IIIIZZ)V" } : Jvm.MethodName) prog_94_method_1_code (7 : Nat) (Option.none : Option Jvm.ClassFile.FieldType), Jvm.Cond.code ({ cls := "java/lang/Record", name := "<init>", desc := "()V" } : Jvm.MethodName) jdk_30_method_1_code (1 : Nat) (Option.none : Option Jvm.ClassFile.FieldType), Jvm.Cond.code ({ cls := "java/lang/Object", name := "<init>", desc := "()V" } : Jvm.MethodName) object_method_1_code (1 : Nat) (Option.none : Option Jvm.ClassFile.FieldType), Jvm.Cond.code ({ cls := "com/example/metrilog/metrilog/TemporalMapping", name := "timeColumns", desc := "()I" } : Jvm.MethodName) prog_94_method_3_code (7 : Nat) (Option.some Jvm.ClassFile.FieldType.int)]
set_option maxRecDepth 65536 in
theorem codes_eq : words1.filter isCode = codes1 := rfl
theorem w_codes : ∀ c ∈ words1.filter isCode, c.before args0 about1 = true := by
  rw [codes_eq]
  intro c hc
  simp only [codes1, List.mem_cons, List.not_mem_nil, or_false] at hc
  rcases hc with rfl | rfl | rfl | rfl | rfl
  · exact w_c0
  · exact w_c1
  · exact w_c2
  · exact w_c3
  · exact w_c4
set_option maxRecDepth 65536 in
theorem w_t1 : (words1.take 24).all (fun c => isCode c || c.before args0 about1) = true := by decide +kernel
set_option maxRecDepth 65536 in
theorem w_t2 : (words1.drop 24).all (fun c => isCode c || c.before args0 about1) = true := by decide +kernel
theorem w_tables : (allAtoms (Jvm.Cond.code x code maxLocals ret :: tables_1)).before args0 about1 = true := by
  rw [allAtoms_all]
  show words1.all (fun c => c.before args0 about1) = true
  refine all_split ?_ w_codes
  rw [← List.take_append_drop 24 words1, List.all_append, w_t1, w_t2]
  rfl
set_option maxRecDepth 65536 in
theorem w_case : (Jvm.Cond.and given_1 narrow_1).before args0 about1 = true := by decide +kernel
theorem w_applies : (headSpec (Jvm.Cond.code x code maxLocals ret :: tables_1) room_1).applies x e0.platform about1 = true :=
  (Spec.applies_iff w_frames).mpr ⟨w_running, w_runnable, w_alone, w_named, w_hears, w_ripe, w_room, w_tables⟩
theorem atStart : AtStart classFile x code maxLocals ret World_1 tables_1 room_1 Calls_1 rest_1 Pre_1 launch0 p0 e0 about1 theMethod args0 below0 :=
  ⟨lists_1, trivial, launch0.admits_env _ _ _, launch0.least_env, fairChoices_fair.cas, fairChoices_fair.clock, w_frames, w_args, w_heap, w_applies, trivial, trivial, w_case⟩
end start1
theorem witness_1 : WitnessClaimed_1 := ⟨start1.p0, start1.e0, start1.about1, start1.theMethod, start1.args0, start1.below0, start1.atStart⟩
end Jvm.Pilot.@@N@@
