import JvmDerived
import JvmDerived.Pilot.@@N@@Statement
import JvmDerived.Pilot.@@N@@Code
set_option linter.unusedVariables false
set_option linter.unusedSimpArgs false
@@BLOCK:NumsL.lean.txt@@
namespace Jvm.RoadKit
open Sem ClassFile Op Lib Jvm.Stand Jvm.Free Jvm.LawKit
section Own
variable {p : Program} {l : Launch} {e : Env} {R : Room} {s : State} {m : MethodId} {args : Array Value} {below : List Frame} {meth : Method} {c : Code} {T : State} {locs : List Loc} {cells slots : Nat} {Z : State} {h h' : Heap} {Q : Option Value → Heap → List Loc → Prop} {kc ks : Nat}
/-- from the state S the run comes to an end of which Q holds -/
def OGo (p : Program) (e : Env) (below : List Frame) (s : State) (Q : Option Value → Heap → List Loc → Prop) (kc ks : Nat) (S : State) : Prop :=
  ∃ s₂ o, Steps p.tables e below S s₂ ∧ s₂.status = .running ∧ Ended s₂ below o ∧ ∃ v L, o = .returned v ∧ Q v s₂.heap L ∧ FrameEnd s o s₂ L kc ks
theorem OGo.on {C N : State} (st : ∀ t, Steps p.tables e below N t → Steps p.tables e below C t) (h : OGo p e below s Q kc ks N) : OGo p e below s Q kc ks C := by
  obtain ⟨s₂, o, h1, h2⟩ := h
  exact ⟨s₂, o, st _ h1, h2⟩
theorem OGo.fin (X : Stand p l e R s m args below meth c T locs cells slots) {v : Option Value} (hv : meth.sig.returnType = none → v = none) (hlocks : meth.locks = false) {C : State}
    (st : ∀ fs, (∀ (f : JFrame) (acts : List Action), f.method = m → f.locked = none → f.entered = [] → (doReturn e (T.setTop f) acts v).1 = T.setFrames fs) → Steps p.tables e below C (T.setFrames fs)) (hq : Q v T.heap locs) (hc : cells ≤ kc) (hs : slots ≤ ks) : OGo p e below s Q kc ks C := by
  obtain ⟨fs, hr, hrun, hended, hW, hsame⟩ := X.leave hv hlocks
  exact ⟨_, _, st fs hr, hrun, hended, v, locs, rfl, hq, ⟨_, rfl⟩, hW, hsame.mono hc hs⟩
theorem OGo.retN (X : Stand p l e R s m args below meth c T locs cells slots) (hx : p.tables.exec = Jvm.exec) {pc : Nat} {Ls : Array Slot} {z : Int32} {t : FieldType} {rest : List Value} (hret : meth.sig.returnType = some t) (hlocks : meth.locks = false) (ht : t = .boolean ∨ t = .byte ∨ t = .char ∨ t = .short)
    (hd : decode c.code pc = .ok (.ireturn, 1)) (hq : Q (some (.int (nar t z))) T.heap locs) (hc : cells ≤ kc) (hs : slots ≤ ks) : OGo p e below s Q kc ks (T.setTop (mkF m pc Ls (.int z :: rest))) :=
  OGo.fin X (fun h => by rw [hret] at h; cases h) hlocks (fun fs hr => Jvm.RoadKit.retN X hx hret ht hd hr) hq hc hs
theorem OGo.retI (X : Stand p l e R s m args below meth c T locs cells slots) (hx : p.tables.exec = Jvm.exec) {pc : Nat} {Ls : Array Slot} {z : Int32} {rest : List Value} (hret : meth.sig.returnType = some .int) (hlocks : meth.locks = false)
    (hd : decode c.code pc = .ok (.ireturn, 1)) (hq : Q (some (.int z)) T.heap locs) (hc : cells ≤ kc) (hs : slots ≤ ks) : OGo p e below s Q kc ks (T.setTop (mkF m pc Ls (.int z :: rest))) :=
  OGo.fin X (fun h => by rw [hret] at h; cases h) hlocks (fun fs hr => retOut X hx hret rfl (Or.inl ⟨rfl, Or.inl rfl, _, rfl⟩) hd hr) hq hc hs
theorem OGo.retJ (X : Stand p l e R s m args below meth c T locs cells slots) (hx : p.tables.exec = Jvm.exec) {pc : Nat} {Ls : Array Slot} {z : Int64} {rest : List Value} (hret : meth.sig.returnType = some .long) (hlocks : meth.locks = false)
    (hd : decode c.code pc = .ok (.lreturn, 1)) (hq : Q (some (.long z)) T.heap locs) (hc : cells ≤ kc) (hs : slots ≤ ks) : OGo p e below s Q kc ks (T.setTop (mkF m pc Ls (.long z :: rest))) :=
  OGo.fin X (fun h => by rw [hret] at h; cases h) hlocks (fun fs hr => retOut X hx hret rfl (Or.inr (Or.inl ⟨rfl, rfl, _, rfl⟩)) hd hr) hq hc hs
theorem OGo.retA (X : Stand p l e R s m args below meth c T locs cells slots) (hx : p.tables.exec = Jvm.exec) {pc : Nat} {Ls : Array Slot} {a : Addr} {t : FieldType} {rest : List Value} (hret : meth.sig.returnType = some t) (ht : t.isReference = true) (hn : narrow t (.ref a) = .ref a) (hlocks : meth.locks = false)
    (hd : decode c.code pc = .ok (.areturn, 1)) (hq : Q (some (.ref a)) T.heap locs) (hc : cells ≤ kc) (hs : slots ≤ ks) : OGo p e below s Q kc ks (T.setTop (mkF m pc Ls (.ref a :: rest))) :=
  OGo.fin X (fun h => by rw [hret] at h; cases h) hlocks (fun fs hr => retOut X hx hret hn (Or.inr (Or.inr (Or.inr (Or.inr ⟨rfl, ht, rfl⟩)))) hd hr) hq hc hs
theorem OGo.ret0 (X : Stand p l e R s m args below meth c T locs cells slots) (hx : p.tables.exec = Jvm.exec) {pc : Nat} {Ls : Array Slot} (hret : meth.sig.returnType = none) (hlocks : meth.locks = false)
    (hd : decode c.code pc = .ok (.return_, 1)) (hq : Q none T.heap locs) (hc : cells ≤ kc) (hs : slots ≤ ks) : OGo p e below s Q kc ks (T.setTop (mkF m pc Ls [])) :=
  OGo.fin X (fun _ => rfl) hlocks (fun fs hr => X.returnOut hx hret hd hr) hq hc hs
/-- what a body that writes nothing leaves -/
def OPure (n0 : Nat) (h0 : Heap) (r : Option Value) (v : Option Value) (h : Heap) (L : List Loc) : Prop := v = r ∧ Fr n0 L ∧ h = h0
theorem opI {n0 : Nat} {h0 : Heap} {x y : Int32} {L : List Loc} (q : x = y) (N : Fr n0 L) (E : h = h0) : OPure n0 h0 (some (.int y)) (some (.int x)) h L := ⟨by rw [q], N, E⟩
theorem opJ {n0 : Nat} {h0 : Heap} {x y : Int64} {L : List Loc} (q : x = y) (N : Fr n0 L) (E : h = h0) : OPure n0 h0 (some (.long y)) (some (.long x)) h L := ⟨by rw [q], N, E⟩
theorem own_nz1 : nar .boolean 1 = 1 := rfl
theorem own_nz0 : nar .boolean 0 = 0 := rfl
theorem own_irem {C : State} {x y : Int32} {g : JFrame} (X : Stand p l e R s m args below meth c T locs cells slots) (hx : p.tables.exec = Jvm.exec) (hg : g.method = m) {rest : List Value} (hd : decode c.code g.pc = .ok (.irem, 1)) (hs : g.stack = .int y :: .int x :: rest) (hy : y ≠ 0) :
    ∀ t, Steps p.tables e below (T.setTop { g with pc := g.pc + 1, stack := .int (x % y) :: rest }) t → Steps p.tables e below (T.setTop g) t := fun t k => iremM X hx hg hd hs hy k
/-! lcmp and the branch behind it -/
theorem own_lc (cd : ClassFile.Cond) (a b : Int64) : ifCond.holds cd (lcmpW a b) = (match cd with | .eq => decide (a = b) | .ne => !decide (a = b) | .lt => decide (a < b) | .ge => !decide (a < b) | .gt => decide (b < a) | .le => !decide (b < a)) := by
  have h1 : a = b ↔ a.toInt = b.toInt := (Int64.toInt_inj).symm
  by_cases g : a > b
  · have g' : b.toInt < a.toInt := Int64.lt_iff_toInt_lt.mp g
    have e1 : lcmpW a b = 1 := if_pos g
    have e2 : ¬ a = b := fun q => by rw [h1] at q; omega
    have e3 : ¬ a < b := fun q => by rw [Int64.lt_iff_toInt_lt] at q; omega
    have e4 : b < a := g
    rw [e1]; cases cd <;> simp [e2, e3, e4] <;> decide
  · by_cases q : a = b
    · have e1 : lcmpW a b = 0 := by rw [lcmpW, if_neg g, if_pos q]
      subst q
      have e3 : ¬ a < a := fun q => by rw [Int64.lt_iff_toInt_lt] at q; omega
      rw [e1]; cases cd <;> simp [e3] <;> decide
    · have e1 : lcmpW a b = -1 := by rw [lcmpW, if_neg g, if_neg q]
      have g1 : ¬ b < a := g
      have g2 : a < b := by rw [Int64.lt_iff_toInt_lt] at g1 ⊢; rw [h1] at q; omega
      rw [e1]; cases cd <;> simp [q, g1, g2] <;> decide
theorem lc_tlt {a b : Int64} (h : a < b) : ifCond.holds .lt (lcmpW a b) = true ∧ ifCond.holds .ge (lcmpW a b) = false ∧ ifCond.holds .gt (lcmpW b a) = true ∧ ifCond.holds .le (lcmpW b a) = false := by simp only [own_lc]; simp [h]
theorem lc_flt {a b : Int64} (h : ¬ a < b) : ifCond.holds .lt (lcmpW a b) = false ∧ ifCond.holds .ge (lcmpW a b) = true ∧ ifCond.holds .gt (lcmpW b a) = false ∧ ifCond.holds .le (lcmpW b a) = true := by simp only [own_lc]; simp [h]
theorem lc_teq {a b : Int64} (h : a = b) : ifCond.holds .eq (lcmpW a b) = true ∧ ifCond.holds .ne (lcmpW a b) = false := by simp only [own_lc]; simp [h]
theorem lc_feq {a b : Int64} (h : ¬ a = b) : ifCond.holds .eq (lcmpW a b) = false ∧ ifCond.holds .ne (lcmpW a b) = true := by simp only [own_lc]; simp [h]
theorem own_nm0 {a : Addr} : a ∉ ([] : List Addr) := fun q => nomatch q
theorem own_nm1 {a b : Addr} (h : a ≠ b) : a ∉ [b] := fun q => h (List.mem_singleton.mp q)
theorem own_nm2 {a b d : Addr} (h : a ≠ b) (h' : a ≠ d) : a ∉ [b, d] := fun q => (List.mem_cons.mp q).elim h fun q => h' (List.mem_singleton.mp q)
theorem own_nm3 {a b d f : Addr} (h : a ≠ b) (h' : a ≠ d) (h'' : a ≠ f) : a ∉ [b, d, f] := fun q => (List.mem_cons.mp q).elim h fun q => (own_nm2 h' h'') q
/-! arrays of numbers, known whole -/
/-- the array at a holds just the ints vs -/
def OAL (Z : State) (h : Heap) (a : Addr) (ty : FieldType) (vs : List Int32) : Prop := ∃ c : Cell, Arr Z h a c ty ∧ c.slots = (vs.map Value.int).toArray
/-- the array at a holds just the longs vs -/
def OAJ (Z : State) (h : Heap) (a : Addr) (vs : List Int64) : Prop := ∃ c : Cell, Arr Z h a c .long ∧ c.slots = (vs.map Value.long).toArray
/-- the place j lies inside and holds v -/
def OAt {α : Type} (vs : List α) (j : Int32) (v : α) : Prop := ¬ j < 0 ∧ vs[j.toNatClampNeg]? = some v
variable {a b : Addr} {ty : FieldType} {vs : List Int32} {us : List Int64} {ws : List Addr} {sl : Nat} {w : Value}
theorem OAL.lt (A : OAL Z h a ty vs) : a < h.size := by obtain ⟨c, A, -⟩ := A; exact A.lt
theorem OAJ.lt (A : OAJ Z h a us) : a < h.size := by obtain ⟨c, A, -⟩ := A; exact A.lt
theorem OAL.ext (A : OAL Z h a ty vs) (E : Ext h h') : OAL Z h' a ty vs := by obtain ⟨c, A, r⟩ := A; exact ⟨c, A.ext E, r⟩
theorem OAJ.ext (A : OAJ Z h a us) (E : Ext h h') : OAJ Z h' a us := by obtain ⟨c, A, r⟩ := A; exact ⟨c, A.ext E, r⟩
theorem OAL.keep (A : OAL Z h a ty vs) (K : Keep h h' ws) (q : a ∉ ws) : OAL Z h' a ty vs := by obtain ⟨c, A, r⟩ := A; exact ⟨c, ⟨K.2.1 a c A.1 q, A.2⟩, r⟩
theorem OAJ.keep (A : OAJ Z h a us) (K : Keep h h' ws) (q : a ∉ ws) : OAJ Z h' a us := by obtain ⟨c, A, r⟩ := A; exact ⟨c, ⟨K.2.1 a c A.1 q, A.2⟩, r⟩
theorem OAL.other (A : OAL Z h b ty vs) (W : Wr h h' a sl w) (q : b ≠ a) : OAL Z h' b ty vs := by obtain ⟨c, A, r⟩ := A; exact ⟨c, A.other W q, r⟩
theorem OAJ.other (A : OAJ Z h b us) (W : Wr h h' a sl w) (q : b ≠ a) : OAJ Z h' b us := by obtain ⟨c, A, r⟩ := A; exact ⟨c, A.other W q, r⟩
theorem own_slots (cl : Cell) (i : Nat) (v : Value) : (cl.setSlot i v).slots = cl.slots.setIfInBounds i v := rfl
theorem OAL.same (A : OAL Z h a ty vs) {i : Nat} {x : Int32} (W : Wr h h' a i (.int x)) : OAL Z h' a ty (vs.set i x) := by
  obtain ⟨c, A, r⟩ := A
  exact ⟨_, A.same W, by rw [own_slots, r]; simp [List.map_set]⟩
theorem OAJ.same (A : OAJ Z h a us) {i : Nat} {x : Int64} (W : Wr h h' a i (.long x)) : OAJ Z h' a (us.set i x) := by
  obtain ⟨c, A, r⟩ := A
  exact ⟨_, A.same W, by rw [own_slots, r]; simp [List.map_set]⟩
theorem OAL.new {cA : ClassId} {n : Int32} (A : Arr Z h a (newA cA ty n) ty) (q : defaultValue ty = .int 0) : OAL Z h a ty (List.replicate n.toNatClampNeg 0) := ⟨_, A, by
  show Array.replicate n.toNatClampNeg (defaultValue ty) = _
  rw [q]; simp⟩
theorem OAJ.new {cA : ClassId} {n : Int32} (A : Arr Z h a (newA cA .long n) .long) : OAJ Z h a (List.replicate n.toNatClampNeg 0) := ⟨_, A, by
  show Array.replicate n.toNatClampNeg (Value.long 0) = _
  simp⟩
theorem own_in {α : Type} {vs : List α} {f : α → Value} {j : Int32} {v : α} {cl : Cell} (r : cl.slots = (vs.map f).toArray) (q : OAt vs j v) : ¬ (j < 0 ∨ cl.slots.size ≤ j.toNatClampNeg) ∧ cl.slots[j.toNatClampNeg]? = some (f v) := by
  obtain ⟨q1, q2⟩ := q
  have hl := (List.getElem?_eq_some_iff.mp q2).1
  rw [r]
  refine ⟨fun z => z.elim q1 fun y => ?_, ?_⟩
  · simp at y; omega
  · simp [q2]
theorem OAL.baB (X : Stand p l e R s m args below meth c T locs cells slots) (hx : p.tables.exec = Jvm.exec) (hZ : Z.Warmed39 s.vm) (eT : T.heap = h) (A : OAL Z h a .byte vs) {j v : Int32} (q : OAt vs j v) {pc : Nat} {Ls : Array Slot} {rest : List Value} (hd : decode c.code pc = .ok (.baload, 1)) {t : State}
    (k : Steps p.tables e below (T.setTop (mkF m (pc + 1) Ls (.int v :: rest))) t) : Steps p.tables e below (T.setTop (mkF m pc Ls (.int j :: .ref a :: rest))) t := by
  obtain ⟨cl, A, r⟩ := A
  exact X.baloadBytes hx (j := j) (v := .int v) (by rw [eT]; exact A.1) (State.isArrayOf_alike hZ.alike A.2.1) A.2.2 (own_in r q).1 (own_in r q).2 (g := mkF m pc Ls (.int j :: .ref a :: rest)) rfl rfl hd _ k
theorem OAL.baZ (X : Stand p l e R s m args below meth c T locs cells slots) (hx : p.tables.exec = Jvm.exec) (hZ : Z.Warmed39 s.vm) (eT : T.heap = h) (A : OAL Z h a .boolean vs) {j v : Int32} (q : OAt vs j v) {pc : Nat} {Ls : Array Slot} {rest : List Value} (hd : decode c.code pc = .ok (.baload, 1)) {t : State}
    (k : Steps p.tables e below (T.setTop (mkF m (pc + 1) Ls (.int v :: rest))) t) : Steps p.tables e below (T.setTop (mkF m pc Ls (.int j :: .ref a :: rest))) t := by
  obtain ⟨cl, A, r⟩ := A
  exact X.baloadBooleans hx (j := j) (v := .int v) (by rw [eT]; exact A.1) (State.isArrayOf_alike hZ.alike A.2.1) A.2.2 (own_in r q).1 (own_in r q).2 (g := mkF m pc Ls (.int j :: .ref a :: rest)) rfl rfl hd _ k
theorem OAL.ia (X : Stand p l e R s m args below meth c T locs cells slots) (hx : p.tables.exec = Jvm.exec) (hZ : Z.Warmed39 s.vm) (eT : T.heap = h) (A : OAL Z h a .int vs) {j v : Int32} (q : OAt vs j v) {pc : Nat} {Ls : Array Slot} {rest : List Value} (hd : decode c.code pc = .ok (.iaload, 1)) {t : State}
    (k : Steps p.tables e below (T.setTop (mkF m (pc + 1) Ls (.int v :: rest))) t) : Steps p.tables e below (T.setTop (mkF m pc Ls (.int j :: .ref a :: rest))) t := by
  obtain ⟨cl, A, r⟩ := A
  exact X.iaload hx (j := j) (v := .int v) (by rw [eT]; exact A.1) (State.isArrayOf_alike hZ.alike A.2.1) A.2.2 (own_in r q).1 (own_in r q).2 (g := mkF m pc Ls (.int j :: .ref a :: rest)) rfl rfl hd _ k
theorem OAJ.la (X : Stand p l e R s m args below meth c T locs cells slots) (hx : p.tables.exec = Jvm.exec) (hZ : Z.Warmed39 s.vm) (eT : T.heap = h) (A : OAJ Z h a us) {j : Int32} {v : Int64} (q : OAt us j v) {pc : Nat} {Ls : Array Slot} {rest : List Value} (hd : decode c.code pc = .ok (.laload, 1)) {t : State}
    (k : Steps p.tables e below (T.setTop (mkF m (pc + 1) Ls (.long v :: rest))) t) : Steps p.tables e below (T.setTop (mkF m pc Ls (.int j :: .ref a :: rest))) t := by
  obtain ⟨cl, A, r⟩ := A
  exact X.laload hx (j := j) (v := .long v) (by rw [eT]; exact A.1) (State.isArrayOf_alike hZ.alike A.2.1) A.2.2 (own_in r q).1 (own_in r q).2 (g := mkF m pc Ls (.int j :: .ref a :: rest)) rfl rfl hd _ k
theorem OAL.len (X : Stand p l e R s m args below meth c T locs cells slots) (hx : p.tables.exec = Jvm.exec) (hZ : Z.Warmed39 s.vm) (eT : T.heap = h) (A : OAL Z h a ty vs) {n : Int32} (q : vs.length.toInt32 = n) {pc : Nat} {Ls : Array Slot} {rest : List Value} (hd : decode c.code pc = .ok (.arraylength, 1)) {t : State}
    (k : Steps p.tables e below (T.setTop (mkF m (pc + 1) Ls (.int n :: rest))) t) : Steps p.tables e below (T.setTop (mkF m pc Ls (.ref a :: rest))) t := by
  obtain ⟨cl, A, r⟩ := A
  have z : cl.slots.size = vs.length := by rw [r]; simp
  exact X.arraylength hx (by rw [eT]; exact A.1) (State.isArrayOf_alike hZ.alike A.2.1) (g := mkF m pc Ls (.ref a :: rest)) rfl rfl hd _ (by rw [z, q]; exact k)
theorem OAJ.len (X : Stand p l e R s m args below meth c T locs cells slots) (hx : p.tables.exec = Jvm.exec) (hZ : Z.Warmed39 s.vm) (eT : T.heap = h) (A : OAJ Z h a us) {n : Int32} (q : us.length.toInt32 = n) {pc : Nat} {Ls : Array Slot} {rest : List Value} (hd : decode c.code pc = .ok (.arraylength, 1)) {t : State}
    (k : Steps p.tables e below (T.setTop (mkF m (pc + 1) Ls (.int n :: rest))) t) : Steps p.tables e below (T.setTop (mkF m pc Ls (.ref a :: rest))) t := by
  obtain ⟨cl, A, r⟩ := A
  have z : cl.slots.size = us.length := by rw [r]; simp
  exact X.arraylength hx (by rw [eT]; exact A.1) (State.isArrayOf_alike hZ.alike A.2.1) (g := mkF m pc Ls (.ref a :: rest)) rfl rfl hd _ (by rw [z, q]; exact k)
theorem own_into {α : Type} {vs : List α} {f : α → Value} {j : Int32} {cl : Cell} (r : cl.slots = (vs.map f).toArray) (q1 : ¬ j < 0) (q2 : j.toNatClampNeg < vs.length) : ¬ (j < 0 ∨ cl.slots.size ≤ j.toNatClampNeg) := by
  rw [r]
  exact fun z => z.elim q1 fun y => by simp at y; omega
theorem OAL.stB (X : Stand p l e R s m args below meth c T locs cells slots) (hx : p.tables.exec = Jvm.exec) (hZ : Z.Warmed39 s.vm) (eT : T.heap = h) (A : OAL Z h a .byte vs) {j x : Int32} (q1 : ¬ j < 0) (q2 : j.toNatClampNeg < vs.length) {pc : Nat} {Ls : Array Slot} {rest : List Value} (hd : decode c.code pc = .ok (.bastore, 1)) :
    ∃ T' h', Stand p l e R s m args below meth c T' (locs ++ [⟨a, j.toNatClampNeg⟩]) cells slots ∧ T'.heap = h' ∧ Wr h h' a j.toNatClampNeg (.int (nar .byte x)) ∧ OAL Z h' a .byte (vs.set j.toNatClampNeg (nar .byte x)) ∧ ∀ t, Steps p.tables e below (T'.setTop (mkF m (pc + 1) Ls rest)) t → Steps p.tables e below (T.setTop (mkF m pc Ls (.int x :: .int j :: .ref a :: rest))) t := by
  obtain ⟨cl, A', r⟩ := A
  obtain ⟨T', h', X', e', W', st⟩ := Jvm.RoadKit.stB X hx hZ eT A' (j := j) (x := x) (own_into r q1 q2) (g := mkF m pc Ls (.int x :: .int j :: .ref a :: rest)) rfl rfl hd
  exact ⟨T', h', X', e', W', OAL.same ⟨cl, A', r⟩ W', st⟩
theorem OAL.stZ (X : Stand p l e R s m args below meth c T locs cells slots) (hx : p.tables.exec = Jvm.exec) (hZ : Z.Warmed39 s.vm) (eT : T.heap = h) (A : OAL Z h a .boolean vs) {j x : Int32} (q1 : ¬ j < 0) (q2 : j.toNatClampNeg < vs.length) {pc : Nat} {Ls : Array Slot} {rest : List Value} (hd : decode c.code pc = .ok (.bastore, 1)) :
    ∃ T' h', Stand p l e R s m args below meth c T' (locs ++ [⟨a, j.toNatClampNeg⟩]) cells slots ∧ T'.heap = h' ∧ Wr h h' a j.toNatClampNeg (.int (nar .boolean x)) ∧ OAL Z h' a .boolean (vs.set j.toNatClampNeg (nar .boolean x)) ∧ ∀ t, Steps p.tables e below (T'.setTop (mkF m (pc + 1) Ls rest)) t → Steps p.tables e below (T.setTop (mkF m pc Ls (.int x :: .int j :: .ref a :: rest))) t := by
  obtain ⟨cl, A', r⟩ := A
  obtain ⟨T', h', X', e', W', st⟩ := Jvm.RoadKit.stZ X hx hZ eT A' (j := j) (x := x) (own_into r q1 q2) (g := mkF m pc Ls (.int x :: .int j :: .ref a :: rest)) rfl rfl hd
  exact ⟨T', h', X', e', W', OAL.same ⟨cl, A', r⟩ W', st⟩
theorem OAL.stI (X : Stand p l e R s m args below meth c T locs cells slots) (hx : p.tables.exec = Jvm.exec) (hZ : Z.Warmed39 s.vm) (eT : T.heap = h) (A : OAL Z h a .int vs) {j x : Int32} (q1 : ¬ j < 0) (q2 : j.toNatClampNeg < vs.length) {pc : Nat} {Ls : Array Slot} {rest : List Value} (hd : decode c.code pc = .ok (.iastore, 1)) :
    ∃ T' h', Stand p l e R s m args below meth c T' (locs ++ [⟨a, j.toNatClampNeg⟩]) cells slots ∧ T'.heap = h' ∧ Wr h h' a j.toNatClampNeg (.int x) ∧ OAL Z h' a .int (vs.set j.toNatClampNeg x) ∧ ∀ t, Steps p.tables e below (T'.setTop (mkF m (pc + 1) Ls rest)) t → Steps p.tables e below (T.setTop (mkF m pc Ls (.int x :: .int j :: .ref a :: rest))) t := by
  obtain ⟨cl, A', r⟩ := A
  obtain ⟨T', h', X', e', W', st⟩ := Jvm.RoadKit.stI X hx hZ eT A' (j := j) (x := x) (own_into r q1 q2) (g := mkF m pc Ls (.int x :: .int j :: .ref a :: rest)) rfl rfl hd
  exact ⟨T', h', X', e', W', OAL.same ⟨cl, A', r⟩ W', st⟩
theorem OAJ.stJ (X : Stand p l e R s m args below meth c T locs cells slots) (hx : p.tables.exec = Jvm.exec) (hZ : Z.Warmed39 s.vm) (eT : T.heap = h) (A : OAJ Z h a us) {j : Int32} {x : Int64} (q1 : ¬ j < 0) (q2 : j.toNatClampNeg < us.length) {pc : Nat} {Ls : Array Slot} {rest : List Value} (hd : decode c.code pc = .ok (.lastore, 1)) :
    ∃ T' h', Stand p l e R s m args below meth c T' (locs ++ [⟨a, j.toNatClampNeg⟩]) cells slots ∧ T'.heap = h' ∧ Wr h h' a j.toNatClampNeg (.long x) ∧ OAJ Z h' a (us.set j.toNatClampNeg x) ∧ ∀ t, Steps p.tables e below (T'.setTop (mkF m (pc + 1) Ls rest)) t → Steps p.tables e below (T.setTop (mkF m pc Ls (.long x :: .int j :: .ref a :: rest))) t := by
  obtain ⟨cl, A', r⟩ := A
  obtain ⟨T', h', X', e', W', st⟩ := Jvm.RoadKit.stJ X hx hZ eT A' (j := j) (x := x) (own_into r q1 q2) (g := mkF m pc Ls (.long x :: .int j :: .ref a :: rest)) rfl rfl hd
  exact ⟨T', h', X', e', W', OAJ.same ⟨cl, A', r⟩ W', st⟩
end Own
end Jvm.RoadKit
namespace Jvm.Pilot.@@N@@
open Jvm Jvm.ClassFile Sem Op Lib Jvm.Free Jvm.Stand Jvm.LawKit Jvm.RoadKit Bundle Jvm.Pilot.@@N@@.Jvm.D
/-! numbers without sign -/
def n32 (y : Int32) : Nat := y.toBitVec.toNat
def n64 (x : Int64) : Nat := x.toBitVec.toNat
theorem n32_lt (y : Int32) : n32 y < 2 ^ 32 := y.toBitVec.isLt
theorem n64_lt (x : Int64) : n64 x < 2 ^ 64 := x.toBitVec.isLt
theorem n64_inj {x y : Int64} (h : n64 x = n64 y) : x = y := Int64.toBitVec_inj.mp (BitVec.eq_of_toNat_eq h)
theorem n32_inj {x y : Int32} (h : n32 x = n32 y) : x = y := Int32.toBitVec_inj.mp (BitVec.eq_of_toNat_eq h)
theorem own_b8 (z : Int8) : n64 (z.toInt32.toInt8.toInt32.toInt64 &&& 255) = z.toBitVec.toNat := by
  have k : ∀ n : Fin 256, n64 ((Int8.ofBitVec (BitVec.ofFin n)).toInt32.toInt8.toInt32.toInt64 &&& 255) = n.val := by decide +kernel
  exact k z.toBitVec.toFin
theorem n8_of32 (y : Int32) : y.toInt8.toBitVec.toNat = n32 y % 256 := by
  show (y.toBitVec.signExtend 8).toNat = y.toBitVec.toNat % 256
  rw [BitVec.signExtend_eq_setWidth_of_le _ (by decide), BitVec.toNat_setWidth]
theorem own_byte (y : Int32) : n64 (y.toInt8.toInt32.toInt8.toInt32.toInt64 &&& 255) = n32 y % 256 := by rw [own_b8, n8_of32]
theorem n32_of64 (x : Int64) : n32 x.toInt32 = n64 x % 2 ^ 32 := by
  show (x.toBitVec.signExtend 32).toNat = x.toBitVec.toNat % 2 ^ 32
  rw [BitVec.signExtend_eq_setWidth_of_le _ (by decide), BitVec.toNat_setWidth]
theorem n32_shr (x : Int32) {n : UInt32} {k : Nat} (hn : n.toNat = k) (hk : k < 32) : n32 (x.toUInt32 >>> n).toInt32 = n32 x / 2 ^ k := by
  show (x.toUInt32 >>> n).toNat = x.toUInt32.toNat / 2 ^ k
  rw [UInt32.toNat_shiftRight, hn, Nat.mod_eq_of_lt hk, Nat.shiftRight_eq_div_pow]
theorem n64_shr (x : Int64) {n : UInt64} {k : Nat} (hn : n.toNat = k) (hk : k < 64) : n64 (x.toUInt64 >>> n).toInt64 = n64 x / 2 ^ k := by
  show (x.toUInt64 >>> n).toNat = x.toUInt64.toNat / 2 ^ k
  rw [UInt64.toNat_shiftRight, hn, Nat.mod_eq_of_lt hk, Nat.shiftRight_eq_div_pow]
theorem n64_shl (x n : Int64) {k : Nat} (hn : (n.toBitVec.smod 64).toNat = k) (h : n64 x * 2 ^ k < 2 ^ 64) : n64 (x <<< n) = n64 x * 2 ^ k := by
  show (x.toBitVec <<< (n.toBitVec.smod 64)).toNat = x.toBitVec.toNat * 2 ^ k
  rw [BitVec.shiftLeft_eq', hn, BitVec.toNat_shiftLeft, Nat.shiftLeft_eq]
  exact Nat.mod_eq_of_lt h
theorem n64_or {x y : Int64} {k q : Nat} (hx : n64 x < 2 ^ k) (hy : n64 y = q * 2 ^ k) : n64 (x ||| y) = n64 x + n64 y := by
  show (x.toBitVec ||| y.toBitVec).toNat = _
  rw [BitVec.toNat_or]
  have e : y.toBitVec.toNat = q <<< k := by rw [Nat.shiftLeft_eq]; exact hy
  have f := Nat.shiftLeft_add_eq_or_of_lt hx q
  rw [Nat.or_comm, e]
  show q <<< k ||| n64 x = n64 x + n64 y
  rw [← f, hy, Nat.shiftLeft_eq, Nat.add_comm]
theorem n64_or' {x y : Int64} {k q : Nat} (hx : n64 x < 2 ^ k) (hy : n64 y = q * 2 ^ k) : n64 (y ||| x) = n64 y + n64 x := by
  have e : y ||| x = x ||| y := Int64.or_comm y x
  rw [e, n64_or hx hy, Nat.add_comm]

def own_home (h : Int32) : Int32 := ((h * (-1640531527)).toUInt32 >>> ((28 : Int32) &&& 31).toUInt32).toInt32
def own_fol (i : Int32) : Int32 := (i + 1) &&& 15
def own_val (h e : Int32) : Int64 := (h.toInt64 <<< ((32 : Int32) &&& 0x3f).toInt64) ||| (e.toInt64 + 1)
def own_hash (v : Int64) : Int32 := ((v.toUInt64 >>> ((32 : Int32) &&& 0x3f).toInt64.toUInt64).toInt64).toInt32
def own_entry (v : Int64) : Int32 := v.toInt32 - 1
def own_rep (v : Int64) (c : Int32) : Int64 := (v &&& (-4294967296)) ||| (c.toInt64 + 1)
def In16 (i : Int32) : Prop := ∃ n : Fin 16, i = Int32.ofNat n.val
theorem in_home (h : Int32) : In16 (own_home h) := by
  have e := n32_shr (h * (-1640531527)) (n := ((28 : Int32) &&& 31).toUInt32) (k := 28) (by decide) (by decide)
  have l := n32_lt (h * (-1640531527))
  refine ⟨⟨n32 (own_home h), ?_⟩, ?_⟩
  · show n32 ((h * (-1640531527)).toUInt32 >>> ((28 : Int32) &&& 31).toUInt32).toInt32 < 16
    rw [e]; omega
  · apply n32_inj
    have q : n32 (own_home h) < 16 := by
      show n32 ((h * (-1640531527)).toUInt32 >>> ((28 : Int32) &&& 31).toUInt32).toInt32 < 16
      rw [e]; omega
    have k : ∀ n : Fin 16, n32 (Int32.ofNat n.val) = n.val := by decide
    exact (k ⟨n32 (own_home h), q⟩).symm
theorem in_fol {i : Int32} (h : In16 i) : In16 (own_fol i) := by
  obtain ⟨n, rfl⟩ := h
  have k : ∀ n : Fin 16, ∃ m : Fin 16, own_fol (Int32.ofNat n.val) = Int32.ofNat m.val := by decide
  exact k n
theorem fol_ne {i : Int32} (h : In16 i) : own_fol i ≠ i := by
  obtain ⟨n, rfl⟩ := h
  have k : ∀ n : Fin 16, own_fol (Int32.ofNat n.val) ≠ Int32.ofNat n.val := by decide
  exact k n
theorem in_ok {i : Int32} (h : In16 i) : ¬ i < 0 ∧ i.toNatClampNeg < 16 := by
  obtain ⟨n, rfl⟩ := h
  have k : ∀ n : Fin 16, ¬ Int32.ofNat n.val < 0 ∧ (Int32.ofNat n.val).toNatClampNeg < 16 := by decide
  exact k n
theorem in_inj {i j : Int32} (h : In16 i) (h' : In16 j) (e : i.toNatClampNeg = j.toNatClampNeg) : i = j := by
  obtain ⟨n, rfl⟩ := h
  obtain ⟨m, rfl⟩ := h'
  have k : ∀ n m : Fin 16, (Int32.ofNat n.val).toNatClampNeg = (Int32.ofNat m.val).toNatClampNeg → Int32.ofNat n.val = Int32.ofNat m.val := by decide
  exact k n m e
theorem own_same {us : List Int64} {i : Int32} {v : Int64} (hi : In16 i) (hl : us.length = 16) : OAt (us.set i.toNatClampNeg v) i v := by
  refine ⟨(in_ok hi).1, ?_⟩
  rw [List.getElem?_set, if_pos rfl, if_pos (by rw [hl]; exact (in_ok hi).2)]
theorem own_other {us : List Int64} {i j : Int32} {v w : Int64} (A : OAt us j w) (hi : In16 i) (hj : In16 j) (hne : i ≠ j) : OAt (us.set i.toNatClampNeg v) j w := by
  refine ⟨A.1, ?_⟩
  rw [List.getElem?_set, if_neg (fun e => hne (in_inj hi hj e))]; exact A.2
theorem own_zero {i : Int32} (hi : In16 i) : OAt [(0 : Int64), 0, 0, 0, 0, 0, 0, 0, 0, 0, 0, 0, 0, 0, 0, 0] i 0 := by
  obtain ⟨n, rfl⟩ := hi
  have k : ∀ n : Fin 16, ¬ Int32.ofNat n.val < 0 ∧ [(0 : Int64), 0, 0, 0, 0, 0, 0, 0, 0, 0, 0, 0, 0, 0, 0, 0][(Int32.ofNat n.val).toNatClampNeg]? = some 0 := by decide
  exact k n
theorem own_len {us : List Int64} {i : Int32} {v : Int64} (h : us.length = 16) : (us.set i.toNatClampNeg v).length = 16 := by rw [List.length_set, h]
theorem own_len32 {us : List Int64} (h : us.length = 16) : us.length.toInt32 = 16 := by rw [h]; decide
theorem own_e1 {e : Int32} (h : 0 ≤ e.toInt) : (n64 (e.toInt64 + 1) : Int) = e.toInt + 1 ∧ n64 (e.toInt64 + 1) ≤ 2 ^ 31 := by
  have l := e.toInt_lt
  have k1 : (1 : Int64).toInt = 1 := by decide
  have a : (e.toInt64 + 1).toInt = e.toInt + 1 := by
    rw [Jvm.Kit.i64_add (by rw [Jvm.Kit.i64_of_i32, k1]; omega) (by rw [Jvm.Kit.i64_of_i32, k1]; omega), Jvm.Kit.i64_of_i32, k1]
  have b : (e.toInt64 + 1).toInt = ((e.toInt64 + 1).toBitVec).toInt := rfl
  have u := n64_lt (e.toInt64 + 1)
  rw [b, BitVec.toInt_eq_toNat_cond] at a
  unfold n64 at *
  split at a <;> omega
theorem own_hi (h : Int32) : n64 (h.toInt64 <<< ((32 : Int32) &&& 0x3f).toInt64) = n32 h * 2 ^ 32 := by
  show (h.toInt64.toBitVec <<< (((32 : Int32) &&& 0x3f).toInt64.toBitVec.smod 64)).toNat = _
  have k : ((((32 : Int32) &&& 0x3f).toInt64).toBitVec.smod 64).toNat = 32 := by decide
  rw [BitVec.shiftLeft_eq', k, BitVec.toNat_shiftLeft, Nat.shiftLeft_eq]
  have e := n32_of64 h.toInt64
  rw [Int32.toInt32_toInt64] at e
  have l := n64_lt h.toInt64
  unfold n64 at *
  omega
theorem own_vn {h e : Int32} (he : 0 ≤ e.toInt) : n64 (own_val h e) = n32 h * 2 ^ 32 + n64 (e.toInt64 + 1) := by
  have a := own_hi h
  have b := own_e1 he
  unfold own_val
  rw [n64_or' (k := 32) (by omega) a, a]
theorem own_nz {h e : Int32} (he : 0 ≤ e.toInt) : ¬ own_val h e = 0 := fun q => by
  have a := own_vn (h := h) he
  have b := own_e1 he
  have z : n64 0 = 0 := by decide
  rw [q, z] at a; omega
theorem own_hv {h e : Int32} (he : 0 ≤ e.toInt) : own_hash (own_val h e) = h := by
  apply n32_inj
  have a := own_vn (h := h) he
  have b := own_e1 he
  have l := n32_lt h
  unfold own_hash
  rw [n32_of64, n64_shr _ (k := 32) (by decide) (by decide), a]
  omega
theorem own_ev {h e : Int32} (he : 0 ≤ e.toInt) : own_entry (own_val h e) = e := by
  have a := own_vn (h := h) he
  have b := own_e1 he
  have l := n32_lt h
  have c := n32_of64 (own_val h e)
  have d : n32 (own_val h e).toInt32 = n64 (e.toInt64 + 1) := by rw [c, a]; omega
  apply n32_inj
  show ((own_val h e).toInt32.toBitVec - 1#32).toNat = n32 e
  rw [BitVec.toNat_sub]
  have f : e.toInt = e.toBitVec.toInt := rfl
  rw [f, BitVec.toInt_eq_toNat_cond] at b he
  have g := n32_lt e
  have k : (1#32).toNat = 1 := rfl
  unfold n32 at *
  rw [d, k]
  split at b <;> omega
theorem own_hm (v : Int64) : n64 (v &&& (-4294967296)) = n64 v / 2 ^ 32 * 2 ^ 32 := by
  have e : (v &&& (-4294967296)).toBitVec = (v.toBitVec >>> 32) <<< 32 := by
    show v.toBitVec &&& 0xFFFFFFFF00000000#64 = _
    apply BitVec.eq_of_getLsbD_eq
    intro i hi
    rw [BitVec.getLsbD_and, BitVec.getLsbD_shiftLeft, BitVec.getLsbD_ushiftRight]
    have k : ∀ i : Fin 64, (0xFFFFFFFF00000000#64).getLsbD i.val = decide (32 ≤ i.val) := by decide
    rw [k ⟨i, hi⟩]
    by_cases q : 32 ≤ i
    · have q' : ¬ i < 32 := by omega
      have q2 : 32 + (i - 32) = i := by omega
      simp [q, q', q2, hi]
    · have q' : i < 32 := by omega
      simp [q, q']
  unfold n64
  rw [e, BitVec.toNat_shiftLeft, BitVec.toNat_ushiftRight, Nat.shiftRight_eq_div_pow, Nat.shiftLeft_eq]
  have l := v.toBitVec.isLt
  omega
theorem own_rv {h e c : Int32} (he : 0 ≤ e.toInt) (hc : 0 ≤ c.toInt) : own_rep (own_val h e) c = own_val h c := by
  apply n64_inj
  have a := own_vn (h := h) he
  have a' := own_vn (h := h) hc
  have b := own_e1 he
  have b' := own_e1 hc
  have m := own_hm (own_val h e)
  unfold own_rep
  rw [n64_or' (k := 32) (by omega) m, m, a, a']
  omega
theorem own_mask (a : Int32) : 0 ≤ (a &&& 2147483647).toInt := by
  rw [Jvm.Kit.i32_mask a 2147483647 (k := 31) (by decide) (by decide)]; exact Int.emod_nonneg _ (by decide)

/-- a private method is the one that is picked -/
theorem own_selP {y : MethodName} {s : State} {args : Array Value} {n : Nat} (hy : y.cls ≠ "java/lang/invoke/MethodHandle" ∧ y.cls ≠ "java/lang/invoke/VarHandle") (hins : (Jvm.Cond.instantiable y.cls n).before args s = true) (hpriv : (Jvm.Cond.privateMethod y).before args s = true) (hinst : (Jvm.Cond.instanceMethod y).before args s = true) :
    (Jvm.Cond.selects y.cls y y).before args s = true := by
  obtain ⟨c, k, hc, hk, -, hniab, -, -⟩ := Cond.instantiable_spec hins
  have hni : k.isInterface = false := (Bool.or_eq_false_iff.mp hniab).1
  obtain ⟨mk, methM, hnamed, hmethM, -, -⟩ := Cond.instanceMethod_spec hinst
  have hfound : s.methodFound? y.cls y.name y.desc = some mk := State.methodFound?_of_named hnamed hy
  have hcls : mk.cls = c := Option.some.inj ((findClass_of_methodNamed hnamed).symm.trans hc)
  have hsel : selectMethod {} s.vm c mk = .method mk := selectMethod_private hmethM (Cond.privateMethod_at hpriv mk methM hnamed hmethM)
  simp only [Cond.before, Cond.holds, Cond.value, hc, hfound, hnamed, hsel, hcls, hk]
  simp; exact hni

theorem own_al {us : List Int64} {i j : Int32} {v : Int64} (e : i = j) (p : OAt us i v) : OAt us j v := e ▸ p
theorem own_pn0 : plainName "java/lang/Integer" = true := by first | (simp [plainName, overriddenIn]; done) | decide +kernel
theorem ef_own_mnlz (m : MethodId) (x0 : Int32) : entryFrame m #[(.int x0)] 2 = mkF m 0 #[.val (.int x0), .unset] [] := by first | (simp [entryFrame, mkF, argsToLocals, Value.category]; done) | rfl
theorem d3_0 : decode jdk_33_method_47_code 0 = .ok (.iload_n 0, 1) := by decide +kernel
theorem d3_1 : decode jdk_33_method_47_code 1 = .ok (.ifCond .gt 14, 3) := by decide +kernel
theorem d3_15 : decode jdk_33_method_47_code 15 = .ok (.bipush 31, 2) := by decide +kernel
theorem d3_17 : decode jdk_33_method_47_code 17 = .ok (.istore_n 1, 1) := by decide +kernel
theorem d3_18 : decode jdk_33_method_47_code 18 = .ok (.iload_n 0, 1) := by decide +kernel
theorem d3_19 : decode jdk_33_method_47_code 19 = .ok (.ldc_w 264, 3) := by decide +kernel
theorem d3_22 : decode jdk_33_method_47_code 22 = .ok (.if_icmp .lt 11, 3) := by decide +kernel
theorem d3_33 : decode jdk_33_method_47_code 33 = .ok (.iload_n 0, 1) := by decide +kernel
theorem d3_34 : decode jdk_33_method_47_code 34 = .ok (.sipush 256, 3) := by decide +kernel
theorem d3_37 : decode jdk_33_method_47_code 37 = .ok (.if_icmp .lt 11, 3) := by decide +kernel
theorem d3_48 : decode jdk_33_method_47_code 48 = .ok (.iload_n 0, 1) := by decide +kernel
theorem d3_49 : decode jdk_33_method_47_code 49 = .ok (.bipush 16, 2) := by decide +kernel
theorem d3_51 : decode jdk_33_method_47_code 51 = .ok (.if_icmp .lt 10, 3) := by decide +kernel
theorem d3_54 : decode jdk_33_method_47_code 54 = .ok (.iinc 1 (-4), 3) := by decide +kernel
theorem d3_57 : decode jdk_33_method_47_code 57 = .ok (.iload_n 0, 1) := by decide +kernel
theorem d3_58 : decode jdk_33_method_47_code 58 = .ok (.iconst 4, 1) := by decide +kernel
theorem d3_59 : decode jdk_33_method_47_code 59 = .ok (.iushr, 1) := by decide +kernel
theorem d3_60 : decode jdk_33_method_47_code 60 = .ok (.istore_n 0, 1) := by decide +kernel
theorem d3_61 : decode jdk_33_method_47_code 61 = .ok (.iload_n 0, 1) := by decide +kernel
theorem d3_62 : decode jdk_33_method_47_code 62 = .ok (.iconst 4, 1) := by decide +kernel
theorem d3_63 : decode jdk_33_method_47_code 63 = .ok (.if_icmp .lt 10, 3) := by decide +kernel
theorem d3_73 : decode jdk_33_method_47_code 73 = .ok (.iload_n 1, 1) := by decide +kernel
theorem d3_74 : decode jdk_33_method_47_code 74 = .ok (.iload_n 0, 1) := by decide +kernel
theorem d3_75 : decode jdk_33_method_47_code 75 = .ok (.iconst 1, 1) := by decide +kernel
theorem d3_76 : decode jdk_33_method_47_code 76 = .ok (.iushr, 1) := by decide +kernel
theorem d3_77 : decode jdk_33_method_47_code 77 = .ok (.isub, 1) := by decide +kernel
theorem d3_78 : decode jdk_33_method_47_code 78 = .ok (.ireturn, 1) := by decide +kernel
set_option maxRecDepth 65536 in
set_option maxHeartbeats 40000000 in
theorem own_mnlz (l : Launch) (Z : State) (a0 : Array Value) (hw : ∀ d ∈ tables_1, d.before a0 Z = true) (ws : List Jvm.Cond)  (h0 : Heap) (n0 : Nat) (Z0 : n0 ≤ h0.size)  :
    MetFree l (⟨"java/lang/Integer", "numberOfLeadingZeros", "(I)I"⟩ : MethodName) (head1 (Jvm.Cond.code (⟨"java/lang/Integer", "numberOfLeadingZeros", "(I)I"⟩ : MethodName) jdk_33_method_47_code 2 (some .int) :: ws) ({ frames := 0, cells := 0, slots := 0, locals := 0 } : Room)) (fun a U => a = #[(.int (16 : Int32))] ∧ Z.Warmed39 U.vm ∧ U.heap = h0) (fun _ _ _ _ _ => True) (fun _ U o U' => ∃ v L, o = .returned v ∧ (OPure n0 h0 (some (.int (27 : Int32)))) v U'.heap L ∧ FrameEnd U o U' L ({ frames := 0, cells := 0, slots := 0, locals := 0 } : Room).cells ({ frames := 0, cells := 0, slots := 0, locals := 0 } : Room).slots) := by
  refine MetFree.of_bodySF (plainFor_of_name own_pn0) hisR ?_
  intro p e s m args below meth c s₁ Bd hml0 hP hK
  obtain ⟨rfl, hZ, hh⟩ := hP
  have hx := Bd.exec
  have hby := Bd.bytes
  have hret := Bd.returns
  have hlk : meth.locks = false := Bd.notSynchronized
  have hml : c.maxLocals = 2 := hml0
  have hown : s.vm.findClass "java/lang/Integer" = some m.cls := findClass_of_methodNamed Bd.named
  have hnm := (name_of_methodNamed Bd.named Bd.method).1
  have X0 : Stand p l e ({ frames := 0, cells := 0, slots := 0, locals := 0 } : Room) s m #[(.int (16 : Int32))] below meth c s₁ [] 0 0 := Stand.of_body Bd
  have e0 : s₁.heap = h0 := by rw [← hh, Bd.state]; rfl
  have N0 := Fr.nil n0
  have pre0 : ∀ t, Steps p.tables e below (s₁.setTop (mkF m 0 #[.val (.int (16 : Int32)), .unset] [])) t → Steps p.tables e below (s₁.setTop (entryFrame m #[(.int (16 : Int32))] 2)) t := fun t k => castTop (ef_own_mnlz m (16 : Int32)) k
  show OGo p e below s (OPure n0 h0 (some (.int (27 : Int32)))) ({ frames := 0, cells := 0, slots := 0, locals := 0 } : Room).cells ({ frames := 0, cells := 0, slots := 0, locals := 0 } : Room).slots (s₁.setTop (entryFrame m #[(.int (16 : Int32))] 2))
  refine OGo.on pre0 ?_
  show OGo p e below s _ _ _ (s₁.setTop (mkF m 0 #[.val (.int (16 : Int32)), .unset] []))
  refine OGo.on (fun t k => XS.iloadN X0.here hx rfl (hb hby d3_0) rfl k) ?_
  show OGo p e below s _ _ _ (s₁.setTop (mkF m 1 #[.val (.int (16 : Int32)), .unset] [(.int (16 : Int32))]))
  refine OGo.on (fun t k => XS.ifYes X0.here hx rfl (pc0 := 1) (pc' := 15) rfl (hb hby d3_1) rfl ((if0 _ _).trans (tlt (by decide)).2.2.1) (by decide) (by decide) k) ?_
  show OGo p e below s _ _ _ (s₁.setTop (mkF m 15 #[.val (.int (16 : Int32)), .unset] []))
  refine OGo.on (fun t k => XS.bipush X0.here hx rfl (hb hby d3_15) k) ?_
  show OGo p e below s _ _ _ (s₁.setTop (mkF m 17 #[.val (.int (16 : Int32)), .unset] [(.int (31 : Int32))]))
  refine OGo.on (fun t k => XS.istoreN X0.here hx rfl (hb hby d3_17) rfl (l' := #[.val (.int (16 : Int32)), .val (.int (31 : Int32))]) rfl k) ?_
  show OGo p e below s _ _ _ (s₁.setTop (mkF m 18 #[.val (.int (16 : Int32)), .val (.int (31 : Int32))] []))
  refine OGo.on (fun t k => XS.iloadN X0.here hx rfl (hb hby d3_18) rfl k) ?_
  show OGo p e below s _ _ _ (s₁.setTop (mkF m 19 #[.val (.int (16 : Int32)), .val (.int (31 : Int32))] [(.int (16 : Int32))]))
  refine OGo.on (fun t k => X0.ldcWI hx hown (mvT hZ (hw _ (List.mem_of_getElem? (i := 19) rfl))) (g := (mkF m 19 #[.val (.int (16 : Int32)), .val (.int (31 : Int32))] [(.int (16 : Int32))])) rfl (hb hby d3_19) k) ?_
  show OGo p e below s _ _ _ (s₁.setTop (mkF m 22 #[.val (.int (16 : Int32)), .val (.int (31 : Int32))] [(.int (65536 : Int32)), (.int (16 : Int32))]))
  refine OGo.on (fun t k => XS.icmpYes X0.here hx rfl (pc0 := 22) (pc' := 33) rfl (hb hby d3_22) rfl (tlt (by decide)).1 (by decide) (by decide) k) ?_
  show OGo p e below s _ _ _ (s₁.setTop (mkF m 33 #[.val (.int (16 : Int32)), .val (.int (31 : Int32))] []))
  refine OGo.on (fun t k => XS.iloadN X0.here hx rfl (hb hby d3_33) rfl k) ?_
  show OGo p e below s _ _ _ (s₁.setTop (mkF m 34 #[.val (.int (16 : Int32)), .val (.int (31 : Int32))] [(.int (16 : Int32))]))
  refine OGo.on (fun t k => XS.sipush X0.here hx rfl (hb hby d3_34) k) ?_
  show OGo p e below s _ _ _ (s₁.setTop (mkF m 37 #[.val (.int (16 : Int32)), .val (.int (31 : Int32))] [(.int (256 : Int32)), (.int (16 : Int32))]))
  refine OGo.on (fun t k => XS.icmpYes X0.here hx rfl (pc0 := 37) (pc' := 48) rfl (hb hby d3_37) rfl (tlt (by decide)).1 (by decide) (by decide) k) ?_
  show OGo p e below s _ _ _ (s₁.setTop (mkF m 48 #[.val (.int (16 : Int32)), .val (.int (31 : Int32))] []))
  refine OGo.on (fun t k => XS.iloadN X0.here hx rfl (hb hby d3_48) rfl k) ?_
  show OGo p e below s _ _ _ (s₁.setTop (mkF m 49 #[.val (.int (16 : Int32)), .val (.int (31 : Int32))] [(.int (16 : Int32))]))
  refine OGo.on (fun t k => XS.bipush X0.here hx rfl (hb hby d3_49) k) ?_
  show OGo p e below s _ _ _ (s₁.setTop (mkF m 51 #[.val (.int (16 : Int32)), .val (.int (31 : Int32))] [(.int (16 : Int32)), (.int (16 : Int32))]))
  refine OGo.on (fun t k => XS.icmpNo X0.here hx rfl (hb hby d3_51) rfl (flt (by decide)).1 k) ?_
  show OGo p e below s _ _ _ (s₁.setTop (mkF m 54 #[.val (.int (16 : Int32)), .val (.int (31 : Int32))] []))
  refine OGo.on (fun t k => XS.iinc X0.here hx rfl (hb hby d3_54) rfl (l' := #[.val (.int (16 : Int32)), .val (.int (27 : Int32))]) rfl k) ?_
  show OGo p e below s _ _ _ (s₁.setTop (mkF m 57 #[.val (.int (16 : Int32)), .val (.int (27 : Int32))] []))
  refine OGo.on (fun t k => XS.iloadN X0.here hx rfl (hb hby d3_57) rfl k) ?_
  show OGo p e below s _ _ _ (s₁.setTop (mkF m 58 #[.val (.int (16 : Int32)), .val (.int (27 : Int32))] [(.int (16 : Int32))]))
  refine OGo.on (fun t k => XS.iconst X0.here hx rfl (hb hby d3_58) k) ?_
  show OGo p e below s _ _ _ (s₁.setTop (mkF m 59 #[.val (.int (16 : Int32)), .val (.int (27 : Int32))] [(.int (4 : Int32)), (.int (16 : Int32))]))
  refine OGo.on (fun t k => XS.iushr X0.here hx rfl (hb hby d3_59) rfl k) ?_
  show OGo p e below s _ _ _ (s₁.setTop (mkF m 60 #[.val (.int (16 : Int32)), .val (.int (27 : Int32))] [(.int (1 : Int32))]))
  refine OGo.on (fun t k => XS.istoreN X0.here hx rfl (hb hby d3_60) rfl (l' := #[.val (.int (1 : Int32)), .val (.int (27 : Int32))]) rfl k) ?_
  show OGo p e below s _ _ _ (s₁.setTop (mkF m 61 #[.val (.int (1 : Int32)), .val (.int (27 : Int32))] []))
  refine OGo.on (fun t k => XS.iloadN X0.here hx rfl (hb hby d3_61) rfl k) ?_
  show OGo p e below s _ _ _ (s₁.setTop (mkF m 62 #[.val (.int (1 : Int32)), .val (.int (27 : Int32))] [(.int (1 : Int32))]))
  refine OGo.on (fun t k => XS.iconst X0.here hx rfl (hb hby d3_62) k) ?_
  show OGo p e below s _ _ _ (s₁.setTop (mkF m 63 #[.val (.int (1 : Int32)), .val (.int (27 : Int32))] [(.int (4 : Int32)), (.int (1 : Int32))]))
  refine OGo.on (fun t k => XS.icmpYes X0.here hx rfl (pc0 := 63) (pc' := 73) rfl (hb hby d3_63) rfl (tlt (by decide)).1 (by decide) (by decide) k) ?_
  show OGo p e below s _ _ _ (s₁.setTop (mkF m 73 #[.val (.int (1 : Int32)), .val (.int (27 : Int32))] []))
  refine OGo.on (fun t k => XS.iloadN X0.here hx rfl (hb hby d3_73) rfl k) ?_
  show OGo p e below s _ _ _ (s₁.setTop (mkF m 74 #[.val (.int (1 : Int32)), .val (.int (27 : Int32))] [(.int (27 : Int32))]))
  refine OGo.on (fun t k => XS.iloadN X0.here hx rfl (hb hby d3_74) rfl k) ?_
  show OGo p e below s _ _ _ (s₁.setTop (mkF m 75 #[.val (.int (1 : Int32)), .val (.int (27 : Int32))] [(.int (1 : Int32)), (.int (27 : Int32))]))
  refine OGo.on (fun t k => XS.iconst X0.here hx rfl (hb hby d3_75) k) ?_
  show OGo p e below s _ _ _ (s₁.setTop (mkF m 76 #[.val (.int (1 : Int32)), .val (.int (27 : Int32))] [(.int (1 : Int32)), (.int (1 : Int32)), (.int (27 : Int32))]))
  refine OGo.on (fun t k => XS.iushr X0.here hx rfl (hb hby d3_76) rfl k) ?_
  show OGo p e below s _ _ _ (s₁.setTop (mkF m 77 #[.val (.int (1 : Int32)), .val (.int (27 : Int32))] [(.int (0 : Int32)), (.int (27 : Int32))]))
  refine OGo.on (fun t k => XS.isub X0.here hx rfl (hb hby d3_77) rfl k) ?_
  show OGo p e below s _ _ _ (s₁.setTop (mkF m 78 #[.val (.int (1 : Int32)), .val (.int (27 : Int32))] [(.int (27 : Int32))]))
  exact OGo.retI X0 hx hret hlk (hb hby d3_78) (opI rfl N0 e0) (by decide) (by decide)
theorem own_pn1 : plainName "com/example/metrilog/metrilog/Slots" = true := by first | (simp [plainName, overriddenIn]; done) | decide +kernel
theorem ef_own_mmix (m : MethodId) (x0 : Int32) : entryFrame m #[(.int x0)] 1 = mkF m 0 #[.val (.int x0)] [] := by first | (simp [entryFrame, mkF, argsToLocals, Value.category]; done) | rfl
theorem d6_0 : decode prog_93_method_15_code 0 = .ok (.iload_n 0, 1) := by decide +kernel
theorem d6_1 : decode prog_93_method_15_code 1 = .ok (.ldc 68, 2) := by decide +kernel
theorem d6_3 : decode prog_93_method_15_code 3 = .ok (.imul, 1) := by decide +kernel
theorem d6_4 : decode prog_93_method_15_code 4 = .ok (.ireturn, 1) := by decide +kernel
set_option maxRecDepth 65536 in
set_option maxHeartbeats 40000000 in
theorem own_mmix (l : Launch) (Z : State) (a0 : Array Value) (hw : ∀ d ∈ tables_1, d.before a0 Z = true) (ws : List Jvm.Cond) (vh : Int32) (h0 : Heap) (n0 : Nat) (Z0 : n0 ≤ h0.size)  :
    MetFree l (⟨"com/example/metrilog/metrilog/Slots", "mixed", "(I)I"⟩ : MethodName) (head1 (Jvm.Cond.code (⟨"com/example/metrilog/metrilog/Slots", "mixed", "(I)I"⟩ : MethodName) prog_93_method_15_code 1 (some .int) :: ws) ({ frames := 0, cells := 0, slots := 0, locals := 0 } : Room)) (fun a U => a = #[(.int vh)] ∧ Z.Warmed39 U.vm ∧ U.heap = h0) (fun _ _ _ _ _ => True) (fun _ U o U' => ∃ v L, o = .returned v ∧ (OPure n0 h0 (some (.int (vh * (-1640531527))))) v U'.heap L ∧ FrameEnd U o U' L ({ frames := 0, cells := 0, slots := 0, locals := 0 } : Room).cells ({ frames := 0, cells := 0, slots := 0, locals := 0 } : Room).slots) := by
  refine MetFree.of_bodySF (plainFor_of_name own_pn1) hisR ?_
  intro p e s m args below meth c s₁ Bd hml0 hP hK
  obtain ⟨rfl, hZ, hh⟩ := hP
  have hx := Bd.exec
  have hby := Bd.bytes
  have hret := Bd.returns
  have hlk : meth.locks = false := Bd.notSynchronized
  have hml : c.maxLocals = 1 := hml0
  have hown : s.vm.findClass "com/example/metrilog/metrilog/Slots" = some m.cls := findClass_of_methodNamed Bd.named
  have hnm := (name_of_methodNamed Bd.named Bd.method).1
  have X0 : Stand p l e ({ frames := 0, cells := 0, slots := 0, locals := 0 } : Room) s m #[(.int vh)] below meth c s₁ [] 0 0 := Stand.of_body Bd
  have e0 : s₁.heap = h0 := by rw [← hh, Bd.state]; rfl
  have N0 := Fr.nil n0
  have pre0 : ∀ t, Steps p.tables e below (s₁.setTop (mkF m 0 #[.val (.int vh)] [])) t → Steps p.tables e below (s₁.setTop (entryFrame m #[(.int vh)] 1)) t := fun t k => castTop (ef_own_mmix m vh) k
  show OGo p e below s (OPure n0 h0 (some (.int (vh * (-1640531527))))) ({ frames := 0, cells := 0, slots := 0, locals := 0 } : Room).cells ({ frames := 0, cells := 0, slots := 0, locals := 0 } : Room).slots (s₁.setTop (entryFrame m #[(.int vh)] 1))
  refine OGo.on pre0 ?_
  show OGo p e below s _ _ _ (s₁.setTop (mkF m 0 #[.val (.int vh)] []))
  refine OGo.on (fun t k => XS.iloadN X0.here hx rfl (hb hby d6_0) rfl k) ?_
  show OGo p e below s _ _ _ (s₁.setTop (mkF m 1 #[.val (.int vh)] [(.int vh)]))
  refine OGo.on (fun t k => X0.ldcI hx hown (mvT hZ (hw _ (List.mem_of_getElem? (i := 34) rfl))) (g := (mkF m 1 #[.val (.int vh)] [(.int vh)])) rfl (hb hby d6_1) k) ?_
  show OGo p e below s _ _ _ (s₁.setTop (mkF m 3 #[.val (.int vh)] [(.int (-1640531527 : Int32)), (.int vh)]))
  refine OGo.on (fun t k => XS.imul X0.here hx rfl (hb hby d6_3) rfl k) ?_
  show OGo p e below s _ _ _ (s₁.setTop (mkF m 4 #[.val (.int vh)] [(.int (vh * (-1640531527 : Int32)))]))
  exact OGo.retI X0 hx hret hlk (hb hby d6_4) (opI rfl N0 e0) (by decide) (by decide)
def Q_own_minit (Z : State) (ra : Addr) (h0 : Heap) (n0 : Nat) (v : Option Value) (h : Heap) (L : List Loc) : Prop := v = none ∧ Fr n0 L ∧ Keep h0 h [ra] ∧ ∃ rb, n0 ≤ rb ∧ ra ≠ rb ∧ Fld Z h ra "com/example/metrilog/metrilog/Slots" "slots" "[J" (.ref rb) ∧ Fld Z h ra "com/example/metrilog/metrilog/Slots" "shift" "I" (.int (28 : Int32)) ∧ Fld Z h ra "com/example/metrilog/metrilog/Slots" "filled" "I" (.int (0 : Int32)) ∧ OAJ Z h rb [(0 : Int64), 0, 0, 0, 0, 0, 0, 0, 0, 0, 0, 0, 0, 0, 0, 0]
theorem own_pd0 : parseMethodDescriptor "()V" = some ⟨[], none⟩ := by decide +kernel
theorem own_pd1 : parseMethodDescriptor "(I)I" = some ⟨[.int], some .int⟩ := by decide +kernel
theorem ef_own_minit (m : MethodId) (x0 : Addr) (x1 : Int32) : entryFrame m #[(.ref x0), (.int x1)] 3 = mkF m 0 #[.val (.ref x0), .val (.int x1), .unset] [] := by first | (simp [entryFrame, mkF, argsToLocals, Value.category]; done) | rfl
theorem d1_0 : decode prog_93_method_2_code 0 = .ok (.aload_n 0, 1) := by decide +kernel
theorem d1_1 : decode prog_93_method_2_code 1 = .ok (.invokespecial 7, 3) := by decide +kernel
theorem d1_4 : decode prog_93_method_2_code 4 = .ok (.bipush 16, 2) := by decide +kernel
theorem d1_6 : decode prog_93_method_2_code 6 = .ok (.istore_n 2, 1) := by decide +kernel
theorem d1_7 : decode prog_93_method_2_code 7 = .ok (.iload_n 1, 1) := by decide +kernel
theorem d1_8 : decode prog_93_method_2_code 8 = .ok (.i2l, 1) := by decide +kernel
theorem d1_9 : decode prog_93_method_2_code 9 = .ok (.ldc2_w 12, 3) := by decide +kernel
theorem d1_12 : decode prog_93_method_2_code 12 = .ok (.lmul, 1) := by decide +kernel
theorem d1_13 : decode prog_93_method_2_code 13 = .ok (.iload_n 2, 1) := by decide +kernel
theorem d1_14 : decode prog_93_method_2_code 14 = .ok (.i2l, 1) := by decide +kernel
theorem d1_15 : decode prog_93_method_2_code 15 = .ok (.ldc2_w 14, 3) := by decide +kernel
theorem d1_18 : decode prog_93_method_2_code 18 = .ok (.lmul, 1) := by decide +kernel
theorem d1_19 : decode prog_93_method_2_code 19 = .ok (.lcmp, 1) := by decide +kernel
theorem d1_20 : decode prog_93_method_2_code 20 = .ok (.ifCond .le 10, 3) := by decide +kernel
theorem d1_30 : decode prog_93_method_2_code 30 = .ok (.aload_n 0, 1) := by decide +kernel
theorem d1_31 : decode prog_93_method_2_code 31 = .ok (.iload_n 2, 1) := by decide +kernel
theorem d1_32 : decode prog_93_method_2_code 32 = .ok (.newarray .long, 2) := by decide +kernel
theorem d1_34 : decode prog_93_method_2_code 34 = .ok (.putfield 16, 3) := by decide +kernel
theorem d1_37 : decode prog_93_method_2_code 37 = .ok (.aload_n 0, 1) := by decide +kernel
theorem d1_38 : decode prog_93_method_2_code 38 = .ok (.iload_n 2, 1) := by decide +kernel
theorem d1_39 : decode prog_93_method_2_code 39 = .ok (.invokestatic 20, 3) := by decide +kernel
theorem d1_42 : decode prog_93_method_2_code 42 = .ok (.iconst 1, 1) := by decide +kernel
theorem d1_43 : decode prog_93_method_2_code 43 = .ok (.iadd, 1) := by decide +kernel
theorem d1_44 : decode prog_93_method_2_code 44 = .ok (.putfield 26, 3) := by decide +kernel
theorem d1_47 : decode prog_93_method_2_code 47 = .ok (.return_, 1) := by decide +kernel
set_option maxRecDepth 65536 in
set_option maxHeartbeats 40000000 in
theorem own_minit (l : Launch) (Z : State) (a0 : Array Value) (hw : ∀ d ∈ tables_1, d.before a0 Z = true) (ws : List Jvm.Cond) (ra : Addr) (h0 : Heap) (n0 : Nat) (Z0 : n0 ≤ h0.size) (g_ra : n0 ≤ ra) (E_ra : Exa Z h0 ra "com/example/metrilog/metrilog/Slots") (F_slots_ra : Fld Z h0 ra "com/example/metrilog/metrilog/Slots" "slots" "[J" .null) (F_shift_ra : Fld Z h0 ra "com/example/metrilog/metrilog/Slots" "shift" "I" (.int (0 : Int32))) (F_filled_ra : Fld Z h0 ra "com/example/metrilog/metrilog/Slots" "filled" "I" (.int (0 : Int32)))  :
    MetFree l (⟨"com/example/metrilog/metrilog/Slots", "<init>", "(I)V"⟩ : MethodName) (head1 (Jvm.Cond.code (⟨"com/example/metrilog/metrilog/Slots", "<init>", "(I)V"⟩ : MethodName) prog_93_method_2_code 3 none :: ws) ({ frames := 1, cells := 1, slots := 16, locals := 14 } : Room)) (fun a U => a = #[(.ref ra), (.int (0 : Int32))] ∧ Z.Warmed39 U.vm ∧ U.heap = h0) (fun _ _ _ _ _ => True) (fun _ U o U' => ∃ v L, o = .returned v ∧ (Q_own_minit Z ra h0 n0) v U'.heap L ∧ FrameEnd U o U' L ({ frames := 1, cells := 1, slots := 16, locals := 14 } : Room).cells ({ frames := 1, cells := 1, slots := 16, locals := 14 } : Room).slots) := by
  refine MetFree.of_bodySF (plainFor_of_name own_pn1) hisR ?_
  intro p e s m args below meth c s₁ Bd hml0 hP hK
  obtain ⟨rfl, hZ, hh⟩ := hP
  have hx := Bd.exec
  have hby := Bd.bytes
  have hret := Bd.returns
  have hlk : meth.locks = false := Bd.notSynchronized
  have hml : c.maxLocals = 3 := hml0
  have hown : s.vm.findClass "com/example/metrilog/metrilog/Slots" = some m.cls := findClass_of_methodNamed Bd.named
  have hnm := (name_of_methodNamed Bd.named Bd.method).1
  have X0 : Stand p l e ({ frames := 1, cells := 1, slots := 16, locals := 14 } : Room) s m #[(.ref ra), (.int (0 : Int32))] below meth c s₁ [] 0 0 := Stand.of_body Bd
  have e0 : s₁.heap = h0 := by rw [← hh, Bd.state]; rfl
  have N0 := Fr.nil n0
  have pre0 : ∀ t, Steps p.tables e below (s₁.setTop (mkF m 0 #[.val (.ref ra), .val (.int (0 : Int32)), .unset] [])) t → Steps p.tables e below (s₁.setTop (entryFrame m #[(.ref ra), (.int (0 : Int32))] 3)) t := fun t k => castTop (ef_own_minit m ra (0 : Int32)) k
  have K0 : Keep h0 h0 [ra] := Keep.refl _ _
  show OGo p e below s (Q_own_minit Z ra h0 n0) ({ frames := 1, cells := 1, slots := 16, locals := 14 } : Room).cells ({ frames := 1, cells := 1, slots := 16, locals := 14 } : Room).slots (s₁.setTop (entryFrame m #[(.ref ra), (.int (0 : Int32))] 3))
  refine OGo.on pre0 ?_
  show OGo p e below s _ _ _ (s₁.setTop (mkF m 0 #[.val (.ref ra), .val (.int (0 : Int32)), .unset] []))
  refine OGo.on (fun t k => XS.aloadN X0.here hx rfl (hb hby d1_0) rfl rfl k) ?_
  show OGo p e below s _ _ _ (s₁.setTop (mkF m 1 #[.val (.ref ra), .val (.int (0 : Int32)), .unset] [(.ref ra)]))
  obtain ⟨T1, X1, e1, st1⟩ := initO X0 hx hZ hown (hw _ (List.mem_of_getElem? (i := 7) rfl)) (hw _ (List.mem_of_getElem? (i := 8) rfl)) (hw _ (List.mem_of_getElem? (i := 9) rfl)) e0 (g := (mkF m 1 #[.val (.ref ra), .val (.int (0 : Int32)), .unset] [(.ref ra)])) rfl (by rw [hml]; rfl) rfl (hb hby d1_1) (by decide) (W := 0) (by show 2 * 0 + _ ≤ _; exact Nat.le_of_eq rfl) (by decide)
  refine OGo.on st1 ?_
  show OGo p e below s _ _ _ (T1.setTop (mkF m 4 #[.val (.ref ra), .val (.int (0 : Int32)), .unset] []))
  refine OGo.on (fun t k => XS.bipush X1.here hx rfl (hb hby d1_4) k) ?_
  show OGo p e below s _ _ _ (T1.setTop (mkF m 6 #[.val (.ref ra), .val (.int (0 : Int32)), .unset] [(.int (16 : Int32))]))
  refine OGo.on (fun t k => XS.istoreN X1.here hx rfl (hb hby d1_6) rfl (l' := #[.val (.ref ra), .val (.int (0 : Int32)), .val (.int (16 : Int32))]) rfl k) ?_
  show OGo p e below s _ _ _ (T1.setTop (mkF m 7 #[.val (.ref ra), .val (.int (0 : Int32)), .val (.int (16 : Int32))] []))
  refine OGo.on (fun t k => XS.iloadN X1.here hx rfl (hb hby d1_7) rfl k) ?_
  show OGo p e below s _ _ _ (T1.setTop (mkF m 8 #[.val (.ref ra), .val (.int (0 : Int32)), .val (.int (16 : Int32))] [(.int (0 : Int32))]))
  refine OGo.on (fun t k => XS.i2l X1.here hx rfl (hb hby d1_8) rfl k) ?_
  show OGo p e below s _ _ _ (T1.setTop (mkF m 9 #[.val (.ref ra), .val (.int (0 : Int32)), .val (.int (16 : Int32))] [(.long (0 : Int64))]))
  refine OGo.on (fun t k => X1.ldc2J hx hown (mvT hZ (hw _ (List.mem_of_getElem? (i := 10) rfl))) (g := (mkF m 9 #[.val (.ref ra), .val (.int (0 : Int32)), .val (.int (16 : Int32))] [(.long (0 : Int64))])) rfl (hb hby d1_9) k) ?_
  show OGo p e below s _ _ _ (T1.setTop (mkF m 12 #[.val (.ref ra), .val (.int (0 : Int32)), .val (.int (16 : Int32))] [(.long (4 : Int64)), (.long (0 : Int64))]))
  refine OGo.on (fun t k => XS.lmul X1.here hx rfl (hb hby d1_12) rfl k) ?_
  show OGo p e below s _ _ _ (T1.setTop (mkF m 13 #[.val (.ref ra), .val (.int (0 : Int32)), .val (.int (16 : Int32))] [(.long (0 : Int64))]))
  refine OGo.on (fun t k => XS.iloadN X1.here hx rfl (hb hby d1_13) rfl k) ?_
  show OGo p e below s _ _ _ (T1.setTop (mkF m 14 #[.val (.ref ra), .val (.int (0 : Int32)), .val (.int (16 : Int32))] [(.int (16 : Int32)), (.long (0 : Int64))]))
  refine OGo.on (fun t k => XS.i2l X1.here hx rfl (hb hby d1_14) rfl k) ?_
  show OGo p e below s _ _ _ (T1.setTop (mkF m 15 #[.val (.ref ra), .val (.int (0 : Int32)), .val (.int (16 : Int32))] [(.long (16 : Int64)), (.long (0 : Int64))]))
  refine OGo.on (fun t k => X1.ldc2J hx hown (mvT hZ (hw _ (List.mem_of_getElem? (i := 11) rfl))) (g := (mkF m 15 #[.val (.ref ra), .val (.int (0 : Int32)), .val (.int (16 : Int32))] [(.long (16 : Int64)), (.long (0 : Int64))])) rfl (hb hby d1_15) k) ?_
  show OGo p e below s _ _ _ (T1.setTop (mkF m 18 #[.val (.ref ra), .val (.int (0 : Int32)), .val (.int (16 : Int32))] [(.long (3 : Int64)), (.long (16 : Int64)), (.long (0 : Int64))]))
  refine OGo.on (fun t k => XS.lmul X1.here hx rfl (hb hby d1_18) rfl k) ?_
  show OGo p e below s _ _ _ (T1.setTop (mkF m 19 #[.val (.ref ra), .val (.int (0 : Int32)), .val (.int (16 : Int32))] [(.long (48 : Int64)), (.long (0 : Int64))]))
  refine OGo.on (fun t k => XS.lcmp X1.here hx rfl (hb hby d1_19) rfl k) ?_
  show OGo p e below s _ _ _ (T1.setTop (mkF m 20 #[.val (.ref ra), .val (.int (0 : Int32)), .val (.int (16 : Int32))] [(.int (lcmpW (0 : Int64) (48 : Int64)))]))
  refine OGo.on (fun t k => XS.ifYes X1.here hx rfl (pc0 := 20) (pc' := 30) rfl (hb hby d1_20) rfl (lc_flt (by decide)).2.2.2 (by decide) (by decide) k) ?_
  show OGo p e below s _ _ _ (T1.setTop (mkF m 30 #[.val (.ref ra), .val (.int (0 : Int32)), .val (.int (16 : Int32))] []))
  refine OGo.on (fun t k => XS.aloadN X1.here hx rfl (hb hby d1_30) rfl rfl k) ?_
  show OGo p e below s _ _ _ (T1.setTop (mkF m 31 #[.val (.ref ra), .val (.int (0 : Int32)), .val (.int (16 : Int32))] [(.ref ra)]))
  refine OGo.on (fun t k => XS.iloadN X1.here hx rfl (hb hby d1_31) rfl k) ?_
  show OGo p e below s _ _ _ (T1.setTop (mkF m 32 #[.val (.ref ra), .val (.int (0 : Int32)), .val (.int (16 : Int32))] [(.int (16 : Int32)), (.ref ra)]))
  obtain ⟨T2, h2, k2, X2, e2, E2, A2, st2⟩ := newP X1 hx hZ (hw _ (List.mem_of_getElem? (i := 12) rfl)) e1 (g := (mkF m 32 #[.val (.ref ra), .val (.int (0 : Int32)), .val (.int (16 : Int32))] [(.int (16 : Int32)), (.ref ra)])) rfl (hb hby d1_32) rfl (by decide) (cap := 16) (by decide) (by decide) (by decide) (by decide)
  obtain ⟨b2, g2⟩ : ∃ z, z = h0.size := ⟨_, rfl⟩
  rw [← g2] at A2 st2
  have ne3 : ra ≠ b2 := Nat.ne_of_lt (Nat.lt_of_lt_of_le E_ra.lt (Nat.le_of_eq g2.symm))
  have ge4 : n0 ≤ b2 := Nat.le_trans Z0 (Nat.le_of_eq g2.symm)
  have sz5 : h0.size ≤ b2 := Nat.le_trans K0.1 (Nat.le_of_eq g2.symm)
  have f6 : Exa Z h2 ra "com/example/metrilog/metrilog/Slots" := E_ra.ext E2
  have f7 : Fld Z h2 ra "com/example/metrilog/metrilog/Slots" "slots" "[J" .null := F_slots_ra.ext E2
  have f8 : Fld Z h2 ra "com/example/metrilog/metrilog/Slots" "shift" "I" (.int (0 : Int32)) := F_shift_ra.ext E2
  have f9 : Fld Z h2 ra "com/example/metrilog/metrilog/Slots" "filled" "I" (.int (0 : Int32)) := F_filled_ra.ext E2
  have Z10 : n0 ≤ h2.size := Nat.le_trans Z0 E2.1
  have K11 : Keep h0 h2 [ra] := K0.ext E2
  have V2 : OAJ Z h2 b2 [(0 : Int64), (0 : Int64), (0 : Int64), (0 : Int64), (0 : Int64), (0 : Int64), (0 : Int64), (0 : Int64), (0 : Int64), (0 : Int64), (0 : Int64), (0 : Int64), (0 : Int64), (0 : Int64), (0 : Int64), (0 : Int64)] := OAJ.new A2
  refine OGo.on st2 ?_
  show OGo p e below s _ _ _ (T2.setTop (mkF m 34 #[.val (.ref ra), .val (.int (0 : Int32)), .val (.int (16 : Int32))] [(.ref b2), (.ref ra)]))
  obtain ⟨T12, h12, X12, e12, W12, st12⟩ := putF X2 hx hZ hown (host := "") (Or.inl (hw _ (List.mem_of_getElem? (i := 13) rfl))) Via.refl e2 f7 f6 (Or.inl (hw _ (List.mem_of_getElem? (i := 14) rfl))) (hw _ (List.mem_of_getElem? (i := 2) rfl)) (ty := (.array .long)) (by decide) rfl rfl (g := (mkF m 34 #[.val (.ref ra), .val (.int (0 : Int32)), .val (.int (16 : Int32))] [(.ref b2), (.ref ra)])) rfl rfl (hb hby d1_34)
  have f13 : Exa Z h12 ra "com/example/metrilog/metrilog/Slots" := f6.wr W12
  have f14 : Fld Z h12 ra "com/example/metrilog/metrilog/Slots" "shift" "I" (.int (0 : Int32)) := f8.other W12 (Or.inr (slot_ne (Or.inl (hw _ (List.mem_of_getElem? (i := 21) rfl))) (Or.inl (hw _ (List.mem_of_getElem? (i := 14) rfl))) (by decide) (t := .int) (t' := (.array .long)) (by decide) (by decide)))
  have f15 : Fld Z h12 ra "com/example/metrilog/metrilog/Slots" "filled" "I" (.int (0 : Int32)) := f9.other W12 (Or.inr (slot_ne (Or.inl (hw _ (List.mem_of_getElem? (i := 45) rfl))) (Or.inl (hw _ (List.mem_of_getElem? (i := 14) rfl))) (by decide) (t := .int) (t' := (.array .long)) (by decide) (by decide)))
  have f16 : OAJ Z h12 b2 [(0 : Int64), (0 : Int64), (0 : Int64), (0 : Int64), (0 : Int64), (0 : Int64), (0 : Int64), (0 : Int64), (0 : Int64), (0 : Int64), (0 : Int64), (0 : Int64), (0 : Int64), (0 : Int64), (0 : Int64), (0 : Int64)] := V2.other W12 (Ne.symm ne3)
  have Z17 : n0 ≤ h12.size := Nat.le_trans Z10 (Nat.le_of_eq W12.size.symm)
  have N18 := Fr.snoc X12 N0 g_ra
  have K19 : Keep h0 h12 [ra] := K11.wr W12 (Or.inl (List.mem_of_getElem? (i := 0) rfl))
  have f20 : Fld Z h12 ra "com/example/metrilog/metrilog/Slots" "slots" "[J" (.ref b2) := f7.same W12
  refine OGo.on st12 ?_
  show OGo p e below s _ _ _ (T12.setTop (mkF m 37 #[.val (.ref ra), .val (.int (0 : Int32)), .val (.int (16 : Int32))] []))
  refine OGo.on (fun t k => XS.aloadN X12.here hx rfl (hb hby d1_37) rfl rfl k) ?_
  show OGo p e below s _ _ _ (T12.setTop (mkF m 38 #[.val (.ref ra), .val (.int (0 : Int32)), .val (.int (16 : Int32))] [(.ref ra)]))
  refine OGo.on (fun t k => XS.iloadN X12.here hx rfl (hb hby d1_38) rfl k) ?_
  show OGo p e below s _ _ _ (T12.setTop (mkF m 39 #[.val (.ref ra), .val (.int (0 : Int32)), .val (.int (16 : Int32))] [(.int (16 : Int32)), (.ref ra)]))
  obtain ⟨_, _, ⟨T21, L21, k21, n21⟩, -, X21, ⟨Lc21, hQ21, l21, y21, z21⟩, st21⟩ := Jvm.LawKit.callS X12 hx (y := (⟨"java/lang/Integer", "numberOfLeadingZeros", "(I)I"⟩ : MethodName)) hown (mvT hZ (hw _ (List.mem_of_getElem? (i := 15) rfl))) (mvT hZ (hw _ (List.mem_of_getElem? (i := 16) rfl))) (mvT hZ (hw _ (List.mem_of_getElem? (i := 17) rfl))) (mvT hZ (hw _ (List.mem_of_getElem? (i := 18) rfl))) (by decide) (backOf (W := 1) (own_mnlz l Z a0 hw [] h12 n0 Z17) hZ (hw _ (List.mem_of_getElem? (i := 18) rfl)) (hw _ (List.mem_of_getElem? (i := 17) rfl)) (by decide) (by decide)) (g := (mkF m 39 #[.val (.ref ra), .val (.int (0 : Int32)), .val (.int (16 : Int32))] [(.int (16 : Int32)), (.ref ra)])) rfl (by rw [hml]; rfl) (argsL := [(.int (16 : Int32))]) (rest := [(.ref ra)]) (lenOf own_pd1 rfl) rfl (by show 2 * 0 + _ ≤ _; exact Nat.le_of_eq rfl) (hb hby d1_39) (fun _ _ => ⟨rfl, e12, (by decide : 1 + 0 ≤ _), (by decide : 16 + 0 ≤ _)⟩)
  dsimp only [Pt.U, Pt.locs, Pt.cells, Pt.slots] at X21 l21 y21 z21 st21 hQ21
  subst l21 y21 z21
  obtain ⟨rfl, N21q, e21⟩ := hQ21
  have N21 := Fr.app N18 N21q
  refine OGo.on st21 ?_
  show OGo p e below s _ _ _ (T21.setTop (mkF m 42 #[.val (.ref ra), .val (.int (0 : Int32)), .val (.int (16 : Int32))] [(.int (27 : Int32)), (.ref ra)]))
  refine OGo.on (fun t k => XS.iconst X21.here hx rfl (hb hby d1_42) k) ?_
  show OGo p e below s _ _ _ (T21.setTop (mkF m 43 #[.val (.ref ra), .val (.int (0 : Int32)), .val (.int (16 : Int32))] [(.int (1 : Int32)), (.int (27 : Int32)), (.ref ra)]))
  refine OGo.on (fun t k => XS.iadd X21.here hx rfl (hb hby d1_43) rfl k) ?_
  show OGo p e below s _ _ _ (T21.setTop (mkF m 44 #[.val (.ref ra), .val (.int (0 : Int32)), .val (.int (16 : Int32))] [(.int (28 : Int32)), (.ref ra)]))
  obtain ⟨T22, h22, X22, e22, W22, st22⟩ := putF X21 hx hZ hown (host := "") (Or.inl (hw _ (List.mem_of_getElem? (i := 20) rfl))) Via.refl e21 f14 f13 (Or.inl (hw _ (List.mem_of_getElem? (i := 21) rfl))) (hw _ (List.mem_of_getElem? (i := 2) rfl)) (ty := .int) (by decide) rfl rfl (g := (mkF m 44 #[.val (.ref ra), .val (.int (0 : Int32)), .val (.int (16 : Int32))] [(.int (28 : Int32)), (.ref ra)])) rfl rfl (hb hby d1_44)
  have f23 : Exa Z h22 ra "com/example/metrilog/metrilog/Slots" := f13.wr W22
  have f24 : Fld Z h22 ra "com/example/metrilog/metrilog/Slots" "slots" "[J" (.ref b2) := f20.other W22 (Or.inr (slot_ne (Or.inl (hw _ (List.mem_of_getElem? (i := 14) rfl))) (Or.inl (hw _ (List.mem_of_getElem? (i := 21) rfl))) (by decide) (t := (.array .long)) (t' := .int) (by decide) (by decide)))
  have f25 : Fld Z h22 ra "com/example/metrilog/metrilog/Slots" "filled" "I" (.int (0 : Int32)) := f15.other W22 (Or.inr (slot_ne (Or.inl (hw _ (List.mem_of_getElem? (i := 45) rfl))) (Or.inl (hw _ (List.mem_of_getElem? (i := 21) rfl))) (by decide) (t := .int) (t' := .int) (by decide) (by decide)))
  have f26 : OAJ Z h22 b2 [(0 : Int64), (0 : Int64), (0 : Int64), (0 : Int64), (0 : Int64), (0 : Int64), (0 : Int64), (0 : Int64), (0 : Int64), (0 : Int64), (0 : Int64), (0 : Int64), (0 : Int64), (0 : Int64), (0 : Int64), (0 : Int64)] := f16.other W22 (Ne.symm ne3)
  have Z27 : n0 ≤ h22.size := Nat.le_trans Z17 (Nat.le_of_eq W22.size.symm)
  have N28 := Fr.snoc X22 N21 g_ra
  have K29 : Keep h0 h22 [ra] := K19.wr W22 (Or.inl (List.mem_of_getElem? (i := 0) rfl))
  have f30 : Fld Z h22 ra "com/example/metrilog/metrilog/Slots" "shift" "I" (.int (28 : Int32)) := f14.same W22
  refine OGo.on st22 ?_
  show OGo p e below s _ _ _ (T22.setTop (mkF m 47 #[.val (.ref ra), .val (.int (0 : Int32)), .val (.int (16 : Int32))] []))
  exact OGo.ret0 X22 hx hret hlk (hb hby d1_47) ⟨rfl, N28, by rw [e22]; exact K29, b2, ge4, ne3, by rw [e22]; exact f24, by rw [e22]; exact f30, by rw [e22]; exact f25, by rw [e22]; exact f26⟩ (by decide) (by decide)
theorem ef_own_mhome (m : MethodId) (x0 : Addr) (x1 : Int32) : entryFrame m #[(.ref x0), (.int x1)] 2 = mkF m 0 #[.val (.ref x0), .val (.int x1)] [] := by first | (simp [entryFrame, mkF, argsToLocals, Value.category]; done) | rfl
theorem d5_0 : decode prog_93_method_13_code 0 = .ok (.iload_n 1, 1) := by decide +kernel
theorem d5_1 : decode prog_93_method_13_code 1 = .ok (.invokestatic 65, 3) := by decide +kernel
theorem d5_4 : decode prog_93_method_13_code 4 = .ok (.aload_n 0, 1) := by decide +kernel
theorem d5_5 : decode prog_93_method_13_code 5 = .ok (.getfield 26, 3) := by decide +kernel
theorem d5_8 : decode prog_93_method_13_code 8 = .ok (.iushr, 1) := by decide +kernel
theorem d5_9 : decode prog_93_method_13_code 9 = .ok (.ireturn, 1) := by decide +kernel
set_option maxRecDepth 65536 in
set_option maxHeartbeats 40000000 in
theorem own_mhome (l : Launch) (Z : State) (a0 : Array Value) (hw : ∀ d ∈ tables_1, d.before a0 Z = true) (ws : List Jvm.Cond) (ra : Addr) (vh : Int32) (h0 : Heap) (n0 : Nat) (Z0 : n0 ≤ h0.size) (F_h : Fld Z h0 ra "com/example/metrilog/metrilog/Slots" "shift" "I" (.int (28 : Int32)))  :
    MetFree l (⟨"com/example/metrilog/metrilog/Slots", "home", "(I)I"⟩ : MethodName) (head1 (Jvm.Cond.code (⟨"com/example/metrilog/metrilog/Slots", "home", "(I)I"⟩ : MethodName) prog_93_method_13_code 2 (some .int) :: ws) ({ frames := 1, cells := 0, slots := 0, locals := 12 } : Room)) (fun a U => a = #[(.ref ra), (.int vh)] ∧ Z.Warmed39 U.vm ∧ U.heap = h0) (fun _ _ _ _ _ => True) (fun _ U o U' => ∃ v L, o = .returned v ∧ (OPure n0 h0 (some (.int (own_home vh)))) v U'.heap L ∧ FrameEnd U o U' L ({ frames := 1, cells := 0, slots := 0, locals := 12 } : Room).cells ({ frames := 1, cells := 0, slots := 0, locals := 12 } : Room).slots) := by
  refine MetFree.of_bodySF (plainFor_of_name own_pn1) hisR ?_
  intro p e s m args below meth c s₁ Bd hml0 hP hK
  obtain ⟨rfl, hZ, hh⟩ := hP
  have hx := Bd.exec
  have hby := Bd.bytes
  have hret := Bd.returns
  have hlk : meth.locks = false := Bd.notSynchronized
  have hml : c.maxLocals = 2 := hml0
  have hown : s.vm.findClass "com/example/metrilog/metrilog/Slots" = some m.cls := findClass_of_methodNamed Bd.named
  have hnm := (name_of_methodNamed Bd.named Bd.method).1
  have X0 : Stand p l e ({ frames := 1, cells := 0, slots := 0, locals := 12 } : Room) s m #[(.ref ra), (.int vh)] below meth c s₁ [] 0 0 := Stand.of_body Bd
  have e0 : s₁.heap = h0 := by rw [← hh, Bd.state]; rfl
  have N0 := Fr.nil n0
  have pre0 : ∀ t, Steps p.tables e below (s₁.setTop (mkF m 0 #[.val (.ref ra), .val (.int vh)] [])) t → Steps p.tables e below (s₁.setTop (entryFrame m #[(.ref ra), (.int vh)] 2)) t := fun t k => castTop (ef_own_mhome m ra vh) k
  show OGo p e below s (OPure n0 h0 (some (.int (own_home vh)))) ({ frames := 1, cells := 0, slots := 0, locals := 12 } : Room).cells ({ frames := 1, cells := 0, slots := 0, locals := 12 } : Room).slots (s₁.setTop (entryFrame m #[(.ref ra), (.int vh)] 2))
  refine OGo.on pre0 ?_
  show OGo p e below s _ _ _ (s₁.setTop (mkF m 0 #[.val (.ref ra), .val (.int vh)] []))
  refine OGo.on (fun t k => XS.iloadN X0.here hx rfl (hb hby d5_0) rfl k) ?_
  show OGo p e below s _ _ _ (s₁.setTop (mkF m 1 #[.val (.ref ra), .val (.int vh)] [(.int vh)]))
  obtain ⟨_, _, ⟨T31, L31, k31, n31⟩, -, X31, ⟨Lc31, hQ31, l31, y31, z31⟩, st31⟩ := Jvm.LawKit.callS X0 hx (y := (⟨"com/example/metrilog/metrilog/Slots", "mixed", "(I)I"⟩ : MethodName)) hown (mvT hZ (hw _ (List.mem_of_getElem? (i := 31) rfl))) (mvT hZ (hw _ (List.mem_of_getElem? (i := 32) rfl))) (mvT hZ (hw _ (List.mem_of_getElem? (i := 3) rfl))) (mvT hZ (hw _ (List.mem_of_getElem? (i := 33) rfl))) (by decide) (backOf (W := 0) (own_mmix l Z a0 hw [] vh h0 n0 Z0) hZ (hw _ (List.mem_of_getElem? (i := 33) rfl)) (hw _ (List.mem_of_getElem? (i := 3) rfl)) (by decide) (by decide)) (g := (mkF m 1 #[.val (.ref ra), .val (.int vh)] [(.int vh)])) rfl (by rw [hml]; rfl) (argsL := [(.int vh)]) (rest := []) (lenOf own_pd1 rfl) rfl (by show 2 * 0 + _ ≤ _; exact Nat.le_of_eq rfl) (hb hby d5_1) (fun _ _ => ⟨rfl, e0, (by decide : 0 + 0 ≤ _), (by decide : 0 + 0 ≤ _)⟩)
  dsimp only [Pt.U, Pt.locs, Pt.cells, Pt.slots] at X31 l31 y31 z31 st31 hQ31
  subst l31 y31 z31
  obtain ⟨rfl, N31q, e31⟩ := hQ31
  have N31 := Fr.app N0 N31q
  refine OGo.on st31 ?_
  show OGo p e below s _ _ _ (T31.setTop (mkF m 4 #[.val (.ref ra), .val (.int vh)] [(.int (vh * (-1640531527)))]))
  refine OGo.on (fun t k => XS.aloadN X31.here hx rfl (hb hby d5_4) rfl rfl k) ?_
  show OGo p e below s _ _ _ (T31.setTop (mkF m 5 #[.val (.ref ra), .val (.int vh)] [(.ref ra), (.int (vh * (-1640531527)))]))
  obtain ⟨T32, X32, e32, st32⟩ := getF X31 hx hZ hown (host := "") (Or.inl (hw _ (List.mem_of_getElem? (i := 20) rfl))) Via.refl e31 F_h (g := (mkF m 5 #[.val (.ref ra), .val (.int vh)] [(.ref ra), (.int (vh * (-1640531527)))])) rfl rfl (hb hby d5_5)
  refine OGo.on st32 ?_
  show OGo p e below s _ _ _ (T32.setTop (mkF m 8 #[.val (.ref ra), .val (.int vh)] [(.int (28 : Int32)), (.int (vh * (-1640531527)))]))
  refine OGo.on (fun t k => XS.iushr X32.here hx rfl (hb hby d5_8) rfl k) ?_
  show OGo p e below s _ _ _ (T32.setTop (mkF m 9 #[.val (.ref ra), .val (.int vh)] [(.int (((vh * (-1640531527)).toUInt32 >>> ((28 : Int32) &&& 31).toUInt32).toInt32))]))
  exact OGo.retI X32 hx hret hlk (hb hby d5_9) (opI rfl N31 e32) (by decide) (by decide)
theorem ef_own_mfol (m : MethodId) (x0 : Addr) (x1 : Int32) : entryFrame m #[(.ref x0), (.int x1)] 2 = mkF m 0 #[.val (.ref x0), .val (.int x1)] [] := by first | (simp [entryFrame, mkF, argsToLocals, Value.category]; done) | rfl
theorem d11_0 : decode prog_93_method_11_code 0 = .ok (.iload_n 1, 1) := by decide +kernel
theorem d11_1 : decode prog_93_method_11_code 1 = .ok (.iconst 1, 1) := by decide +kernel
theorem d11_2 : decode prog_93_method_11_code 2 = .ok (.iadd, 1) := by decide +kernel
theorem d11_3 : decode prog_93_method_11_code 3 = .ok (.aload_n 0, 1) := by decide +kernel
theorem d11_4 : decode prog_93_method_11_code 4 = .ok (.getfield 16, 3) := by decide +kernel
theorem d11_7 : decode prog_93_method_11_code 7 = .ok (.arraylength, 1) := by decide +kernel
theorem d11_8 : decode prog_93_method_11_code 8 = .ok (.iconst 1, 1) := by decide +kernel
theorem d11_9 : decode prog_93_method_11_code 9 = .ok (.isub, 1) := by decide +kernel
theorem d11_10 : decode prog_93_method_11_code 10 = .ok (.iand, 1) := by decide +kernel
theorem d11_11 : decode prog_93_method_11_code 11 = .ok (.ireturn, 1) := by decide +kernel
set_option maxRecDepth 65536 in
set_option maxHeartbeats 40000000 in
theorem own_mfol (l : Launch) (Z : State) (a0 : Array Value) (hw : ∀ d ∈ tables_1, d.before a0 Z = true) (ws : List Jvm.Cond) (ra rb : Addr) (us : List Int64) (vi : Int32) (h0 : Heap) (n0 : Nat) (Z0 : n0 ≤ h0.size) (F_s : Fld Z h0 ra "com/example/metrilog/metrilog/Slots" "slots" "[J" (.ref rb)) (A0 : OAJ Z h0 rb us) (hl : us.length = 16)  :
    MetFree l (⟨"com/example/metrilog/metrilog/Slots", "following", "(I)I"⟩ : MethodName) (head1 (Jvm.Cond.code (⟨"com/example/metrilog/metrilog/Slots", "following", "(I)I"⟩ : MethodName) prog_93_method_11_code 2 (some .int) :: ws) ({ frames := 0, cells := 0, slots := 0, locals := 0 } : Room)) (fun a U => a = #[(.ref ra), (.int vi)] ∧ Z.Warmed39 U.vm ∧ U.heap = h0) (fun _ _ _ _ _ => True) (fun _ U o U' => ∃ v L, o = .returned v ∧ (OPure n0 h0 (some (.int (own_fol vi)))) v U'.heap L ∧ FrameEnd U o U' L ({ frames := 0, cells := 0, slots := 0, locals := 0 } : Room).cells ({ frames := 0, cells := 0, slots := 0, locals := 0 } : Room).slots) := by
  refine MetFree.of_bodySF (plainFor_of_name own_pn1) hisR ?_
  intro p e s m args below meth c s₁ Bd hml0 hP hK
  obtain ⟨rfl, hZ, hh⟩ := hP
  have hx := Bd.exec
  have hby := Bd.bytes
  have hret := Bd.returns
  have hlk : meth.locks = false := Bd.notSynchronized
  have hml : c.maxLocals = 2 := hml0
  have hown : s.vm.findClass "com/example/metrilog/metrilog/Slots" = some m.cls := findClass_of_methodNamed Bd.named
  have hnm := (name_of_methodNamed Bd.named Bd.method).1
  have X0 : Stand p l e ({ frames := 0, cells := 0, slots := 0, locals := 0 } : Room) s m #[(.ref ra), (.int vi)] below meth c s₁ [] 0 0 := Stand.of_body Bd
  have e0 : s₁.heap = h0 := by rw [← hh, Bd.state]; rfl
  have N0 := Fr.nil n0
  have pre0 : ∀ t, Steps p.tables e below (s₁.setTop (mkF m 0 #[.val (.ref ra), .val (.int vi)] [])) t → Steps p.tables e below (s₁.setTop (entryFrame m #[(.ref ra), (.int vi)] 2)) t := fun t k => castTop (ef_own_mfol m ra vi) k
  show OGo p e below s (OPure n0 h0 (some (.int (own_fol vi)))) ({ frames := 0, cells := 0, slots := 0, locals := 0 } : Room).cells ({ frames := 0, cells := 0, slots := 0, locals := 0 } : Room).slots (s₁.setTop (entryFrame m #[(.ref ra), (.int vi)] 2))
  refine OGo.on pre0 ?_
  show OGo p e below s _ _ _ (s₁.setTop (mkF m 0 #[.val (.ref ra), .val (.int vi)] []))
  refine OGo.on (fun t k => XS.iloadN X0.here hx rfl (hb hby d11_0) rfl k) ?_
  show OGo p e below s _ _ _ (s₁.setTop (mkF m 1 #[.val (.ref ra), .val (.int vi)] [(.int vi)]))
  refine OGo.on (fun t k => XS.iconst X0.here hx rfl (hb hby d11_1) k) ?_
  show OGo p e below s _ _ _ (s₁.setTop (mkF m 2 #[.val (.ref ra), .val (.int vi)] [(.int (1 : Int32)), (.int vi)]))
  refine OGo.on (fun t k => XS.iadd X0.here hx rfl (hb hby d11_2) rfl k) ?_
  show OGo p e below s _ _ _ (s₁.setTop (mkF m 3 #[.val (.ref ra), .val (.int vi)] [(.int (vi + (1 : Int32)))]))
  refine OGo.on (fun t k => XS.aloadN X0.here hx rfl (hb hby d11_3) rfl rfl k) ?_
  show OGo p e below s _ _ _ (s₁.setTop (mkF m 4 #[.val (.ref ra), .val (.int vi)] [(.ref ra), (.int (vi + (1 : Int32)))]))
  obtain ⟨T33, X33, e33, st33⟩ := getF X0 hx hZ hown (host := "") (Or.inl (hw _ (List.mem_of_getElem? (i := 13) rfl))) Via.refl e0 F_s (g := (mkF m 4 #[.val (.ref ra), .val (.int vi)] [(.ref ra), (.int (vi + (1 : Int32)))])) rfl rfl (hb hby d11_4)
  refine OGo.on st33 ?_
  show OGo p e below s _ _ _ (T33.setTop (mkF m 7 #[.val (.ref ra), .val (.int vi)] [(.ref rb), (.int (vi + (1 : Int32)))]))
  refine OGo.on (fun t k => OAJ.len X33 hx hZ e33 A0 (own_len32 hl) (hb hby d11_7) k) ?_
  show OGo p e below s _ _ _ (T33.setTop (mkF m 8 #[.val (.ref ra), .val (.int vi)] [(.int (16 : Int32)), (.int (vi + (1 : Int32)))]))
  refine OGo.on (fun t k => XS.iconst X33.here hx rfl (hb hby d11_8) k) ?_
  show OGo p e below s _ _ _ (T33.setTop (mkF m 9 #[.val (.ref ra), .val (.int vi)] [(.int (1 : Int32)), (.int (16 : Int32)), (.int (vi + (1 : Int32)))]))
  refine OGo.on (fun t k => XS.isub X33.here hx rfl (hb hby d11_9) rfl k) ?_
  show OGo p e below s _ _ _ (T33.setTop (mkF m 10 #[.val (.ref ra), .val (.int vi)] [(.int (15 : Int32)), (.int (vi + (1 : Int32)))]))
  refine OGo.on (fun t k => XS.iand X33.here hx rfl (hb hby d11_10) rfl k) ?_
  show OGo p e below s _ _ _ (T33.setTop (mkF m 11 #[.val (.ref ra), .val (.int vi)] [(.int ((vi + (1 : Int32)) &&& (15 : Int32)))]))
  exact OGo.retI X33 hx hret hlk (hb hby d11_11) (opI rfl N0 e33) (by decide) (by decide)
theorem ef_own_from0 (m : MethodId) (x0 : Addr) (x1 : Int32) (x2 : Int32) : entryFrame m #[(.ref x0), (.int x1), (.int x2)] 4 = mkF m 0 #[.val (.ref x0), .val (.int x1), .val (.int x2), .unset] [] := by first | (simp [entryFrame, mkF, argsToLocals, Value.category]; done) | rfl
theorem d7_0 : decode prog_93_method_10_code 0 = .ok (.iload_n 1, 1) := by decide +kernel
theorem d7_1 : decode prog_93_method_10_code 1 = .ok (.istore_n 3, 1) := by decide +kernel
theorem d7_2 : decode prog_93_method_10_code 2 = .ok (.aload_n 0, 1) := by decide +kernel
theorem d7_3 : decode prog_93_method_10_code 3 = .ok (.getfield 16, 3) := by decide +kernel
theorem d7_6 : decode prog_93_method_10_code 6 = .ok (.iload_n 3, 1) := by decide +kernel
theorem d7_7 : decode prog_93_method_10_code 7 = .ok (.laload, 1) := by decide +kernel
theorem d7_8 : decode prog_93_method_10_code 8 = .ok (.lconst 0, 1) := by decide +kernel
theorem d7_9 : decode prog_93_method_10_code 9 = .ok (.lcmp, 1) := by decide +kernel
theorem d7_10 : decode prog_93_method_10_code 10 = .ok (.ifCond .eq 26, 3) := by decide +kernel
theorem d7_13 : decode prog_93_method_10_code 13 = .ok (.aload_n 0, 1) := by decide +kernel
theorem d7_14 : decode prog_93_method_10_code 14 = .ok (.getfield 16, 3) := by decide +kernel
theorem d7_17 : decode prog_93_method_10_code 17 = .ok (.iload_n 3, 1) := by decide +kernel
theorem d7_18 : decode prog_93_method_10_code 18 = .ok (.laload, 1) := by decide +kernel
theorem d7_19 : decode prog_93_method_10_code 19 = .ok (.bipush 32, 2) := by decide +kernel
theorem d7_21 : decode prog_93_method_10_code 21 = .ok (.lushr, 1) := by decide +kernel
theorem d7_22 : decode prog_93_method_10_code 22 = .ok (.l2i, 1) := by decide +kernel
theorem d7_23 : decode prog_93_method_10_code 23 = .ok (.iload_n 2, 1) := by decide +kernel
theorem d7_24 : decode prog_93_method_10_code 24 = .ok (.if_icmp .eq 12, 3) := by decide +kernel
theorem d7_36 : decode prog_93_method_10_code 36 = .ok (.iload_n 3, 1) := by decide +kernel
theorem d7_37 : decode prog_93_method_10_code 37 = .ok (.ireturn, 1) := by decide +kernel
set_option maxRecDepth 65536 in
set_option maxHeartbeats 40000000 in
theorem own_from0 (l : Launch) (Z : State) (a0 : Array Value) (hw : ∀ d ∈ tables_1, d.before a0 Z = true) (ws : List Jvm.Cond) (ra rb : Addr) (us : List Int64) (vi vh : Int32) (vx : Int64)  (h0 : Heap) (n0 : Nat) (Z0 : n0 ≤ h0.size) (E_ra : Exa Z h0 ra "com/example/metrilog/metrilog/Slots") (F_s : Fld Z h0 ra "com/example/metrilog/metrilog/Slots" "slots" "[J" (.ref rb)) (A0 : OAJ Z h0 rb us) (hl : us.length = 16) (q0 : OAt us vi vx) (hx0 : ¬ vx = 0 → own_hash vx = vh)  :
    MetFree l (⟨"com/example/metrilog/metrilog/Slots", "from", "(II)I"⟩ : MethodName) (head1 (Jvm.Cond.code (⟨"com/example/metrilog/metrilog/Slots", "from", "(II)I"⟩ : MethodName) prog_93_method_10_code 4 (some .int) :: ws) ({ frames := 0, cells := 0, slots := 0, locals := 0 } : Room)) (fun a U => a = #[(.ref ra), (.int vi), (.int vh)] ∧ Z.Warmed39 U.vm ∧ U.heap = h0) (fun _ _ _ _ _ => True) (fun _ U o U' => ∃ v L, o = .returned v ∧ (OPure n0 h0 (some (.int vi))) v U'.heap L ∧ FrameEnd U o U' L ({ frames := 0, cells := 0, slots := 0, locals := 0 } : Room).cells ({ frames := 0, cells := 0, slots := 0, locals := 0 } : Room).slots) := by
  refine MetFree.of_bodySF (plainFor_of_name own_pn1) hisR ?_
  intro p e s m args below meth c s₁ Bd hml0 hP hK
  obtain ⟨rfl, hZ, hh⟩ := hP
  have hx := Bd.exec
  have hby := Bd.bytes
  have hret := Bd.returns
  have hlk : meth.locks = false := Bd.notSynchronized
  have hml : c.maxLocals = 4 := hml0
  have hown : s.vm.findClass "com/example/metrilog/metrilog/Slots" = some m.cls := findClass_of_methodNamed Bd.named
  have hnm := (name_of_methodNamed Bd.named Bd.method).1
  have X0 : Stand p l e ({ frames := 0, cells := 0, slots := 0, locals := 0 } : Room) s m #[(.ref ra), (.int vi), (.int vh)] below meth c s₁ [] 0 0 := Stand.of_body Bd
  have e0 : s₁.heap = h0 := by rw [← hh, Bd.state]; rfl
  have N0 := Fr.nil n0
  have pre0 : ∀ t, Steps p.tables e below (s₁.setTop (mkF m 0 #[.val (.ref ra), .val (.int vi), .val (.int vh), .unset] [])) t → Steps p.tables e below (s₁.setTop (entryFrame m #[(.ref ra), (.int vi), (.int vh)] 4)) t := fun t k => castTop (ef_own_from0 m ra vi vh) k
  show OGo p e below s (OPure n0 h0 (some (.int vi))) ({ frames := 0, cells := 0, slots := 0, locals := 0 } : Room).cells ({ frames := 0, cells := 0, slots := 0, locals := 0 } : Room).slots (s₁.setTop (entryFrame m #[(.ref ra), (.int vi), (.int vh)] 4))
  refine OGo.on pre0 ?_
  show OGo p e below s _ _ _ (s₁.setTop (mkF m 0 #[.val (.ref ra), .val (.int vi), .val (.int vh), .unset] []))
  refine OGo.on (fun t k => XS.iloadN X0.here hx rfl (hb hby d7_0) rfl k) ?_
  show OGo p e below s _ _ _ (s₁.setTop (mkF m 1 #[.val (.ref ra), .val (.int vi), .val (.int vh), .unset] [(.int vi)]))
  refine OGo.on (fun t k => XS.istoreN X0.here hx rfl (hb hby d7_1) rfl (l' := #[.val (.ref ra), .val (.int vi), .val (.int vh), .val (.int vi)]) rfl k) ?_
  show OGo p e below s _ _ _ (s₁.setTop (mkF m 2 #[.val (.ref ra), .val (.int vi), .val (.int vh), .val (.int vi)] []))
  refine OGo.on (fun t k => XS.aloadN X0.here hx rfl (hb hby d7_2) rfl rfl k) ?_
  show OGo p e below s _ _ _ (s₁.setTop (mkF m 3 #[.val (.ref ra), .val (.int vi), .val (.int vh), .val (.int vi)] [(.ref ra)]))
  obtain ⟨T34, X34, e34, st34⟩ := getF X0 hx hZ hown (host := "") (Or.inl (hw _ (List.mem_of_getElem? (i := 13) rfl))) Via.refl e0 F_s (g := (mkF m 3 #[.val (.ref ra), .val (.int vi), .val (.int vh), .val (.int vi)] [(.ref ra)])) rfl rfl (hb hby d7_3)
  refine OGo.on st34 ?_
  show OGo p e below s _ _ _ (T34.setTop (mkF m 6 #[.val (.ref ra), .val (.int vi), .val (.int vh), .val (.int vi)] [(.ref rb)]))
  refine OGo.on (fun t k => XS.iloadN X34.here hx rfl (hb hby d7_6) rfl k) ?_
  show OGo p e below s _ _ _ (T34.setTop (mkF m 7 #[.val (.ref ra), .val (.int vi), .val (.int vh), .val (.int vi)] [(.int vi), (.ref rb)]))
  refine OGo.on (fun t k => OAJ.la X34 hx hZ e34 A0 q0 (hb hby d7_7) k) ?_
  show OGo p e below s _ _ _ (T34.setTop (mkF m 8 #[.val (.ref ra), .val (.int vi), .val (.int vh), .val (.int vi)] [(.long vx)]))
  refine OGo.on (fun t k => XS.lconst X34.here hx rfl (hb hby d7_8) k) ?_
  show OGo p e below s _ _ _ (T34.setTop (mkF m 9 #[.val (.ref ra), .val (.int vi), .val (.int vh), .val (.int vi)] [(.long (0 : Int64)), (.long vx)]))
  refine OGo.on (fun t k => XS.lcmp X34.here hx rfl (hb hby d7_9) rfl k) ?_
  show OGo p e below s _ _ _ (T34.setTop (mkF m 10 #[.val (.ref ra), .val (.int vi), .val (.int vh), .val (.int vi)] [(.int (lcmpW vx (0 : Int64)))]))
  by_cases hc35 : vx = (0 : Int64)
  · refine OGo.on (fun t k => XS.ifYes X34.here hx rfl (pc0 := 10) (pc' := 36) rfl (hb hby d7_10) rfl (lc_teq hc35).1 (by decide) (by decide) k) ?_
    show OGo p e below s _ _ _ (T34.setTop (mkF m 36 #[.val (.ref ra), .val (.int vi), .val (.int vh), .val (.int vi)] []))
    refine OGo.on (fun t k => XS.iloadN X34.here hx rfl (hb hby d7_36) rfl k) ?_
    show OGo p e below s _ _ _ (T34.setTop (mkF m 37 #[.val (.ref ra), .val (.int vi), .val (.int vh), .val (.int vi)] [(.int vi)]))
    exact OGo.retI X34 hx hret hlk (hb hby d7_37) (opI rfl N0 e34) (by decide) (by decide)
  · refine OGo.on (fun t k => XS.ifNo X34.here hx rfl (hb hby d7_10) rfl (lc_feq hc35).1 k) ?_
    show OGo p e below s _ _ _ (T34.setTop (mkF m 13 #[.val (.ref ra), .val (.int vi), .val (.int vh), .val (.int vi)] []))
    refine OGo.on (fun t k => XS.aloadN X34.here hx rfl (hb hby d7_13) rfl rfl k) ?_
    show OGo p e below s _ _ _ (T34.setTop (mkF m 14 #[.val (.ref ra), .val (.int vi), .val (.int vh), .val (.int vi)] [(.ref ra)]))
    obtain ⟨T36, X36, e36, st36⟩ := getF X34 hx hZ hown (host := "") (Or.inl (hw _ (List.mem_of_getElem? (i := 13) rfl))) Via.refl e34 F_s (g := (mkF m 14 #[.val (.ref ra), .val (.int vi), .val (.int vh), .val (.int vi)] [(.ref ra)])) rfl rfl (hb hby d7_14)
    refine OGo.on st36 ?_
    show OGo p e below s _ _ _ (T36.setTop (mkF m 17 #[.val (.ref ra), .val (.int vi), .val (.int vh), .val (.int vi)] [(.ref rb)]))
    refine OGo.on (fun t k => XS.iloadN X36.here hx rfl (hb hby d7_17) rfl k) ?_
    show OGo p e below s _ _ _ (T36.setTop (mkF m 18 #[.val (.ref ra), .val (.int vi), .val (.int vh), .val (.int vi)] [(.int vi), (.ref rb)]))
    refine OGo.on (fun t k => OAJ.la X36 hx hZ e36 A0 q0 (hb hby d7_18) k) ?_
    show OGo p e below s _ _ _ (T36.setTop (mkF m 19 #[.val (.ref ra), .val (.int vi), .val (.int vh), .val (.int vi)] [(.long vx)]))
    refine OGo.on (fun t k => XS.bipush X36.here hx rfl (hb hby d7_19) k) ?_
    show OGo p e below s _ _ _ (T36.setTop (mkF m 21 #[.val (.ref ra), .val (.int vi), .val (.int vh), .val (.int vi)] [(.int (32 : Int32)), (.long vx)]))
    refine OGo.on (fun t k => XS.lushr X36.here hx rfl (hb hby d7_21) rfl k) ?_
    show OGo p e below s _ _ _ (T36.setTop (mkF m 22 #[.val (.ref ra), .val (.int vi), .val (.int vh), .val (.int vi)] [(.long ((vx.toUInt64 >>> ((32 : Int32) &&& 0x3f).toInt64.toUInt64).toInt64))]))
    refine OGo.on (fun t k => XS.l2i X36.here hx rfl (hb hby d7_22) rfl k) ?_
    show OGo p e below s _ _ _ (T36.setTop (mkF m 23 #[.val (.ref ra), .val (.int vi), .val (.int vh), .val (.int vi)] [(.int (((vx.toUInt64 >>> ((32 : Int32) &&& 0x3f).toInt64.toUInt64).toInt64).toInt32))]))
    refine OGo.on (fun t k => XS.iloadN X36.here hx rfl (hb hby d7_23) rfl k) ?_
    show OGo p e below s _ _ _ (T36.setTop (mkF m 24 #[.val (.ref ra), .val (.int vi), .val (.int vh), .val (.int vi)] [(.int vh), (.int (((vx.toUInt64 >>> ((32 : Int32) &&& 0x3f).toInt64.toUInt64).toInt64).toInt32))]))
    refine OGo.on (fun t k => XS.icmpYes X36.here hx rfl (pc0 := 24) (pc' := 36) rfl (hb hby d7_24) rfl (teq (hx0 hc35)).1 (by decide) (by decide) k) ?_
    show OGo p e below s _ _ _ (T36.setTop (mkF m 36 #[.val (.ref ra), .val (.int vi), .val (.int vh), .val (.int vi)] []))
    refine OGo.on (fun t k => XS.iloadN X36.here hx rfl (hb hby d7_36) rfl k) ?_
    show OGo p e below s _ _ _ (T36.setTop (mkF m 37 #[.val (.ref ra), .val (.int vi), .val (.int vh), .val (.int vi)] [(.int vi)]))
    exact OGo.retI X36 hx hret hlk (hb hby d7_37) (opI rfl N0 e36) (by decide) (by decide)
theorem ef_own_from1 (m : MethodId) (x0 : Addr) (x1 : Int32) (x2 : Int32) : entryFrame m #[(.ref x0), (.int x1), (.int x2)] 4 = mkF m 0 #[.val (.ref x0), .val (.int x1), .val (.int x2), .unset] [] := by first | (simp [entryFrame, mkF, argsToLocals, Value.category]; done) | rfl
theorem d7_27 : decode prog_93_method_10_code 27 = .ok (.aload_n 0, 1) := by decide +kernel
theorem d7_28 : decode prog_93_method_10_code 28 = .ok (.iload_n 3, 1) := by decide +kernel
theorem d7_29 : decode prog_93_method_10_code 29 = .ok (.invokevirtual 54, 3) := by decide +kernel
theorem d7_32 : decode prog_93_method_10_code 32 = .ok (.istore_n 3, 1) := by decide +kernel
theorem d7_33 : decode prog_93_method_10_code 33 = .ok (.goto (-31), 3) := by decide +kernel
set_option maxRecDepth 65536 in
set_option maxHeartbeats 40000000 in
theorem own_from1 (l : Launch) (Z : State) (a0 : Array Value) (hw : ∀ d ∈ tables_1, d.before a0 Z = true) (ws : List Jvm.Cond) (ra rb : Addr) (us : List Int64) (vi vh : Int32) (vx vy : Int64)  (h0 : Heap) (n0 : Nat) (Z0 : n0 ≤ h0.size) (E_ra : Exa Z h0 ra "com/example/metrilog/metrilog/Slots") (F_s : Fld Z h0 ra "com/example/metrilog/metrilog/Slots" "slots" "[J" (.ref rb)) (A0 : OAJ Z h0 rb us) (hl : us.length = 16) (q0 : OAt us vi vx) (hn0 : ¬ vx = 0) (hn1 : ¬ own_hash vx = vh) (q1 : OAt us (own_fol vi) vy) (hy0 : ¬ vy = 0 → own_hash vy = vh)  :
    MetFree l (⟨"com/example/metrilog/metrilog/Slots", "from", "(II)I"⟩ : MethodName) (head1 (Jvm.Cond.code (⟨"com/example/metrilog/metrilog/Slots", "from", "(II)I"⟩ : MethodName) prog_93_method_10_code 4 (some .int) :: ws) ({ frames := 1, cells := 0, slots := 0, locals := 13 } : Room)) (fun a U => a = #[(.ref ra), (.int vi), (.int vh)] ∧ Z.Warmed39 U.vm ∧ U.heap = h0) (fun _ _ _ _ _ => True) (fun _ U o U' => ∃ v L, o = .returned v ∧ (OPure n0 h0 (some (.int (own_fol vi)))) v U'.heap L ∧ FrameEnd U o U' L ({ frames := 1, cells := 0, slots := 0, locals := 13 } : Room).cells ({ frames := 1, cells := 0, slots := 0, locals := 13 } : Room).slots) := by
  refine MetFree.of_bodySF (plainFor_of_name own_pn1) hisR ?_
  intro p e s m args below meth c s₁ Bd hml0 hP hK
  obtain ⟨rfl, hZ, hh⟩ := hP
  have hx := Bd.exec
  have hby := Bd.bytes
  have hret := Bd.returns
  have hlk : meth.locks = false := Bd.notSynchronized
  have hml : c.maxLocals = 4 := hml0
  have hown : s.vm.findClass "com/example/metrilog/metrilog/Slots" = some m.cls := findClass_of_methodNamed Bd.named
  have hnm := (name_of_methodNamed Bd.named Bd.method).1
  have X0 : Stand p l e ({ frames := 1, cells := 0, slots := 0, locals := 13 } : Room) s m #[(.ref ra), (.int vi), (.int vh)] below meth c s₁ [] 0 0 := Stand.of_body Bd
  have e0 : s₁.heap = h0 := by rw [← hh, Bd.state]; rfl
  have N0 := Fr.nil n0
  have pre0 : ∀ t, Steps p.tables e below (s₁.setTop (mkF m 0 #[.val (.ref ra), .val (.int vi), .val (.int vh), .unset] [])) t → Steps p.tables e below (s₁.setTop (entryFrame m #[(.ref ra), (.int vi), (.int vh)] 4)) t := fun t k => castTop (ef_own_from1 m ra vi vh) k
  show OGo p e below s (OPure n0 h0 (some (.int (own_fol vi)))) ({ frames := 1, cells := 0, slots := 0, locals := 13 } : Room).cells ({ frames := 1, cells := 0, slots := 0, locals := 13 } : Room).slots (s₁.setTop (entryFrame m #[(.ref ra), (.int vi), (.int vh)] 4))
  refine OGo.on pre0 ?_
  show OGo p e below s _ _ _ (s₁.setTop (mkF m 0 #[.val (.ref ra), .val (.int vi), .val (.int vh), .unset] []))
  refine OGo.on (fun t k => XS.iloadN X0.here hx rfl (hb hby d7_0) rfl k) ?_
  show OGo p e below s _ _ _ (s₁.setTop (mkF m 1 #[.val (.ref ra), .val (.int vi), .val (.int vh), .unset] [(.int vi)]))
  refine OGo.on (fun t k => XS.istoreN X0.here hx rfl (hb hby d7_1) rfl (l' := #[.val (.ref ra), .val (.int vi), .val (.int vh), .val (.int vi)]) rfl k) ?_
  show OGo p e below s _ _ _ (s₁.setTop (mkF m 2 #[.val (.ref ra), .val (.int vi), .val (.int vh), .val (.int vi)] []))
  refine OGo.on (fun t k => XS.aloadN X0.here hx rfl (hb hby d7_2) rfl rfl k) ?_
  show OGo p e below s _ _ _ (s₁.setTop (mkF m 3 #[.val (.ref ra), .val (.int vi), .val (.int vh), .val (.int vi)] [(.ref ra)]))
  obtain ⟨T37, X37, e37, st37⟩ := getF X0 hx hZ hown (host := "") (Or.inl (hw _ (List.mem_of_getElem? (i := 13) rfl))) Via.refl e0 F_s (g := (mkF m 3 #[.val (.ref ra), .val (.int vi), .val (.int vh), .val (.int vi)] [(.ref ra)])) rfl rfl (hb hby d7_3)
  refine OGo.on st37 ?_
  show OGo p e below s _ _ _ (T37.setTop (mkF m 6 #[.val (.ref ra), .val (.int vi), .val (.int vh), .val (.int vi)] [(.ref rb)]))
  refine OGo.on (fun t k => XS.iloadN X37.here hx rfl (hb hby d7_6) rfl k) ?_
  show OGo p e below s _ _ _ (T37.setTop (mkF m 7 #[.val (.ref ra), .val (.int vi), .val (.int vh), .val (.int vi)] [(.int vi), (.ref rb)]))
  refine OGo.on (fun t k => OAJ.la X37 hx hZ e37 A0 q0 (hb hby d7_7) k) ?_
  show OGo p e below s _ _ _ (T37.setTop (mkF m 8 #[.val (.ref ra), .val (.int vi), .val (.int vh), .val (.int vi)] [(.long vx)]))
  refine OGo.on (fun t k => XS.lconst X37.here hx rfl (hb hby d7_8) k) ?_
  show OGo p e below s _ _ _ (T37.setTop (mkF m 9 #[.val (.ref ra), .val (.int vi), .val (.int vh), .val (.int vi)] [(.long (0 : Int64)), (.long vx)]))
  refine OGo.on (fun t k => XS.lcmp X37.here hx rfl (hb hby d7_9) rfl k) ?_
  show OGo p e below s _ _ _ (T37.setTop (mkF m 10 #[.val (.ref ra), .val (.int vi), .val (.int vh), .val (.int vi)] [(.int (lcmpW vx (0 : Int64)))]))
  refine OGo.on (fun t k => XS.ifNo X37.here hx rfl (hb hby d7_10) rfl (lc_feq hn0).1 k) ?_
  show OGo p e below s _ _ _ (T37.setTop (mkF m 13 #[.val (.ref ra), .val (.int vi), .val (.int vh), .val (.int vi)] []))
  refine OGo.on (fun t k => XS.aloadN X37.here hx rfl (hb hby d7_13) rfl rfl k) ?_
  show OGo p e below s _ _ _ (T37.setTop (mkF m 14 #[.val (.ref ra), .val (.int vi), .val (.int vh), .val (.int vi)] [(.ref ra)]))
  obtain ⟨T38, X38, e38, st38⟩ := getF X37 hx hZ hown (host := "") (Or.inl (hw _ (List.mem_of_getElem? (i := 13) rfl))) Via.refl e37 F_s (g := (mkF m 14 #[.val (.ref ra), .val (.int vi), .val (.int vh), .val (.int vi)] [(.ref ra)])) rfl rfl (hb hby d7_14)
  refine OGo.on st38 ?_
  show OGo p e below s _ _ _ (T38.setTop (mkF m 17 #[.val (.ref ra), .val (.int vi), .val (.int vh), .val (.int vi)] [(.ref rb)]))
  refine OGo.on (fun t k => XS.iloadN X38.here hx rfl (hb hby d7_17) rfl k) ?_
  show OGo p e below s _ _ _ (T38.setTop (mkF m 18 #[.val (.ref ra), .val (.int vi), .val (.int vh), .val (.int vi)] [(.int vi), (.ref rb)]))
  refine OGo.on (fun t k => OAJ.la X38 hx hZ e38 A0 q0 (hb hby d7_18) k) ?_
  show OGo p e below s _ _ _ (T38.setTop (mkF m 19 #[.val (.ref ra), .val (.int vi), .val (.int vh), .val (.int vi)] [(.long vx)]))
  refine OGo.on (fun t k => XS.bipush X38.here hx rfl (hb hby d7_19) k) ?_
  show OGo p e below s _ _ _ (T38.setTop (mkF m 21 #[.val (.ref ra), .val (.int vi), .val (.int vh), .val (.int vi)] [(.int (32 : Int32)), (.long vx)]))
  refine OGo.on (fun t k => XS.lushr X38.here hx rfl (hb hby d7_21) rfl k) ?_
  show OGo p e below s _ _ _ (T38.setTop (mkF m 22 #[.val (.ref ra), .val (.int vi), .val (.int vh), .val (.int vi)] [(.long ((vx.toUInt64 >>> ((32 : Int32) &&& 0x3f).toInt64.toUInt64).toInt64))]))
  refine OGo.on (fun t k => XS.l2i X38.here hx rfl (hb hby d7_22) rfl k) ?_
  show OGo p e below s _ _ _ (T38.setTop (mkF m 23 #[.val (.ref ra), .val (.int vi), .val (.int vh), .val (.int vi)] [(.int (((vx.toUInt64 >>> ((32 : Int32) &&& 0x3f).toInt64.toUInt64).toInt64).toInt32))]))
  refine OGo.on (fun t k => XS.iloadN X38.here hx rfl (hb hby d7_23) rfl k) ?_
  show OGo p e below s _ _ _ (T38.setTop (mkF m 24 #[.val (.ref ra), .val (.int vi), .val (.int vh), .val (.int vi)] [(.int vh), (.int (((vx.toUInt64 >>> ((32 : Int32) &&& 0x3f).toInt64.toUInt64).toInt64).toInt32))]))
  refine OGo.on (fun t k => XS.icmpNo X38.here hx rfl (hb hby d7_24) rfl (feq hn1).1 k) ?_
  show OGo p e below s _ _ _ (T38.setTop (mkF m 27 #[.val (.ref ra), .val (.int vi), .val (.int vh), .val (.int vi)] []))
  refine OGo.on (fun t k => XS.aloadN X38.here hx rfl (hb hby d7_27) rfl rfl k) ?_
  show OGo p e below s _ _ _ (T38.setTop (mkF m 28 #[.val (.ref ra), .val (.int vi), .val (.int vh), .val (.int vi)] [(.ref ra)]))
  refine OGo.on (fun t k => XS.iloadN X38.here hx rfl (hb hby d7_28) rfl k) ?_
  show OGo p e below s _ _ _ (T38.setTop (mkF m 29 #[.val (.ref ra), .val (.int vi), .val (.int vh), .val (.int vi)] [(.int vi), (.ref ra)]))
  obtain ⟨cq39, q39, q39'⟩ := E_ra.cell
  obtain ⟨_, _, ⟨T39, L39, k39, n39⟩, -, X39, ⟨Lc39, hQ39, l39, y39, z39⟩, st39⟩ := X38.privateBack hx (y := (⟨"com/example/metrilog/metrilog/Slots", "following", "(I)I"⟩ : MethodName)) hown (mvT hZ (hw _ (List.mem_of_getElem? (i := 57) rfl))) (mvT hZ (hw _ (List.mem_of_getElem? (i := 58) rfl))) (own_selP (by decide) (mvT hZ (hw _ (List.mem_of_getElem? (i := 2) rfl))) (mvP hZ (hw _ (List.mem_of_getElem? (i := 59) rfl))) (mvT hZ (hw _ (List.mem_of_getElem? (i := 58) rfl)))) (Cond.privateMethod_at (mvP hZ (hw _ (List.mem_of_getElem? (i := 59) rfl)) (args := #[]))) (mvT hZ (hw _ (List.mem_of_getElem? (i := 60) rfl))) (by decide) (backOf (W := 0) (own_mfol l Z a0 hw [] ra rb us vi h0 n0 Z0 F_s A0 hl) hZ (hw _ (List.mem_of_getElem? (i := 60) rfl)) (hw _ (List.mem_of_getElem? (i := 3) rfl)) (by decide) (by decide)) (g := (mkF m 29 #[.val (.ref ra), .val (.int vi), .val (.int vh), .val (.int vi)] [(.int vi), (.ref ra)])) rfl (by rw [hml]; rfl) (Steps.refl _) (a := ra) (by rw [e38]; exact q39) q39' (argsL := [(.int vi)]) (rest := []) (lenOf own_pd1 rfl) rfl (by show 2 * 0 + _ ≤ _; exact Nat.le_of_eq rfl) (hb hby d7_29) (fun _ _ => ⟨rfl, e38, (by decide : 0 + 0 ≤ _), (by decide : 0 + 0 ≤ _)⟩)
  dsimp only [Pt.U, Pt.locs, Pt.cells, Pt.slots] at X39 l39 y39 z39 st39 hQ39
  subst l39 y39 z39
  obtain ⟨rfl, N39q, e39⟩ := hQ39
  have N39 := Fr.app N0 N39q
  refine OGo.on (fun t k => st39.trans k) ?_
  show OGo p e below s _ _ _ (T39.setTop (mkF m 32 #[.val (.ref ra), .val (.int vi), .val (.int vh), .val (.int vi)] [(.int (own_fol vi))]))
  refine OGo.on (fun t k => XS.istoreN X39.here hx rfl (hb hby d7_32) rfl (l' := #[.val (.ref ra), .val (.int vi), .val (.int vh), .val (.int (own_fol vi))]) rfl k) ?_
  show OGo p e below s _ _ _ (T39.setTop (mkF m 33 #[.val (.ref ra), .val (.int vi), .val (.int vh), .val (.int (own_fol vi))] []))
  refine OGo.on (fun t k => XS.goto X39.here hx rfl (pc0 := 33) (pc' := 2) rfl (hb hby d7_33) (by decide) (by decide) k) ?_
  show OGo p e below s _ _ _ (T39.setTop (mkF m 2 #[.val (.ref ra), .val (.int vi), .val (.int vh), .val (.int (own_fol vi))] []))
  refine OGo.on (fun t k => XS.aloadN X39.here hx rfl (hb hby d7_2) rfl rfl k) ?_
  show OGo p e below s _ _ _ (T39.setTop (mkF m 3 #[.val (.ref ra), .val (.int vi), .val (.int vh), .val (.int (own_fol vi))] [(.ref ra)]))
  obtain ⟨T40, X40, e40, st40⟩ := getF X39 hx hZ hown (host := "") (Or.inl (hw _ (List.mem_of_getElem? (i := 13) rfl))) Via.refl e39 F_s (g := (mkF m 3 #[.val (.ref ra), .val (.int vi), .val (.int vh), .val (.int (own_fol vi))] [(.ref ra)])) rfl rfl (hb hby d7_3)
  refine OGo.on st40 ?_
  show OGo p e below s _ _ _ (T40.setTop (mkF m 6 #[.val (.ref ra), .val (.int vi), .val (.int vh), .val (.int (own_fol vi))] [(.ref rb)]))
  refine OGo.on (fun t k => XS.iloadN X40.here hx rfl (hb hby d7_6) rfl k) ?_
  show OGo p e below s _ _ _ (T40.setTop (mkF m 7 #[.val (.ref ra), .val (.int vi), .val (.int vh), .val (.int (own_fol vi))] [(.int (own_fol vi)), (.ref rb)]))
  refine OGo.on (fun t k => OAJ.la X40 hx hZ e40 A0 q1 (hb hby d7_7) k) ?_
  show OGo p e below s _ _ _ (T40.setTop (mkF m 8 #[.val (.ref ra), .val (.int vi), .val (.int vh), .val (.int (own_fol vi))] [(.long vy)]))
  refine OGo.on (fun t k => XS.lconst X40.here hx rfl (hb hby d7_8) k) ?_
  show OGo p e below s _ _ _ (T40.setTop (mkF m 9 #[.val (.ref ra), .val (.int vi), .val (.int vh), .val (.int (own_fol vi))] [(.long (0 : Int64)), (.long vy)]))
  refine OGo.on (fun t k => XS.lcmp X40.here hx rfl (hb hby d7_9) rfl k) ?_
  show OGo p e below s _ _ _ (T40.setTop (mkF m 10 #[.val (.ref ra), .val (.int vi), .val (.int vh), .val (.int (own_fol vi))] [(.int (lcmpW vy (0 : Int64)))]))
  by_cases hc41 : vy = (0 : Int64)
  · refine OGo.on (fun t k => XS.ifYes X40.here hx rfl (pc0 := 10) (pc' := 36) rfl (hb hby d7_10) rfl (lc_teq hc41).1 (by decide) (by decide) k) ?_
    show OGo p e below s _ _ _ (T40.setTop (mkF m 36 #[.val (.ref ra), .val (.int vi), .val (.int vh), .val (.int (own_fol vi))] []))
    refine OGo.on (fun t k => XS.iloadN X40.here hx rfl (hb hby d7_36) rfl k) ?_
    show OGo p e below s _ _ _ (T40.setTop (mkF m 37 #[.val (.ref ra), .val (.int vi), .val (.int vh), .val (.int (own_fol vi))] [(.int (own_fol vi))]))
    exact OGo.retI X40 hx hret hlk (hb hby d7_37) (opI rfl N39 e40) (by decide) (by decide)
  · refine OGo.on (fun t k => XS.ifNo X40.here hx rfl (hb hby d7_10) rfl (lc_feq hc41).1 k) ?_
    show OGo p e below s _ _ _ (T40.setTop (mkF m 13 #[.val (.ref ra), .val (.int vi), .val (.int vh), .val (.int (own_fol vi))] []))
    refine OGo.on (fun t k => XS.aloadN X40.here hx rfl (hb hby d7_13) rfl rfl k) ?_
    show OGo p e below s _ _ _ (T40.setTop (mkF m 14 #[.val (.ref ra), .val (.int vi), .val (.int vh), .val (.int (own_fol vi))] [(.ref ra)]))
    obtain ⟨T42, X42, e42, st42⟩ := getF X40 hx hZ hown (host := "") (Or.inl (hw _ (List.mem_of_getElem? (i := 13) rfl))) Via.refl e40 F_s (g := (mkF m 14 #[.val (.ref ra), .val (.int vi), .val (.int vh), .val (.int (own_fol vi))] [(.ref ra)])) rfl rfl (hb hby d7_14)
    refine OGo.on st42 ?_
    show OGo p e below s _ _ _ (T42.setTop (mkF m 17 #[.val (.ref ra), .val (.int vi), .val (.int vh), .val (.int (own_fol vi))] [(.ref rb)]))
    refine OGo.on (fun t k => XS.iloadN X42.here hx rfl (hb hby d7_17) rfl k) ?_
    show OGo p e below s _ _ _ (T42.setTop (mkF m 18 #[.val (.ref ra), .val (.int vi), .val (.int vh), .val (.int (own_fol vi))] [(.int (own_fol vi)), (.ref rb)]))
    refine OGo.on (fun t k => OAJ.la X42 hx hZ e42 A0 q1 (hb hby d7_18) k) ?_
    show OGo p e below s _ _ _ (T42.setTop (mkF m 19 #[.val (.ref ra), .val (.int vi), .val (.int vh), .val (.int (own_fol vi))] [(.long vy)]))
    refine OGo.on (fun t k => XS.bipush X42.here hx rfl (hb hby d7_19) k) ?_
    show OGo p e below s _ _ _ (T42.setTop (mkF m 21 #[.val (.ref ra), .val (.int vi), .val (.int vh), .val (.int (own_fol vi))] [(.int (32 : Int32)), (.long vy)]))
    refine OGo.on (fun t k => XS.lushr X42.here hx rfl (hb hby d7_21) rfl k) ?_
    show OGo p e below s _ _ _ (T42.setTop (mkF m 22 #[.val (.ref ra), .val (.int vi), .val (.int vh), .val (.int (own_fol vi))] [(.long ((vy.toUInt64 >>> ((32 : Int32) &&& 0x3f).toInt64.toUInt64).toInt64))]))
    refine OGo.on (fun t k => XS.l2i X42.here hx rfl (hb hby d7_22) rfl k) ?_
    show OGo p e below s _ _ _ (T42.setTop (mkF m 23 #[.val (.ref ra), .val (.int vi), .val (.int vh), .val (.int (own_fol vi))] [(.int (((vy.toUInt64 >>> ((32 : Int32) &&& 0x3f).toInt64.toUInt64).toInt64).toInt32))]))
    refine OGo.on (fun t k => XS.iloadN X42.here hx rfl (hb hby d7_23) rfl k) ?_
    show OGo p e below s _ _ _ (T42.setTop (mkF m 24 #[.val (.ref ra), .val (.int vi), .val (.int vh), .val (.int (own_fol vi))] [(.int vh), (.int (((vy.toUInt64 >>> ((32 : Int32) &&& 0x3f).toInt64.toUInt64).toInt64).toInt32))]))
    refine OGo.on (fun t k => XS.icmpYes X42.here hx rfl (pc0 := 24) (pc' := 36) rfl (hb hby d7_24) rfl (teq (hy0 hc41)).1 (by decide) (by decide) k) ?_
    show OGo p e below s _ _ _ (T42.setTop (mkF m 36 #[.val (.ref ra), .val (.int vi), .val (.int vh), .val (.int (own_fol vi))] []))
    refine OGo.on (fun t k => XS.iloadN X42.here hx rfl (hb hby d7_36) rfl k) ?_
    show OGo p e below s _ _ _ (T42.setTop (mkF m 37 #[.val (.ref ra), .val (.int vi), .val (.int vh), .val (.int (own_fol vi))] [(.int (own_fol vi))]))
    exact OGo.retI X42 hx hret hlk (hb hby d7_37) (opI rfl N39 e42) (by decide) (by decide)
theorem own_pd2 : parseMethodDescriptor "(II)I" = some ⟨[.int, .int], some .int⟩ := by decide +kernel
theorem ef_own_first0 (m : MethodId) (x0 : Addr) (x1 : Int32) : entryFrame m #[(.ref x0), (.int x1)] 2 = mkF m 0 #[.val (.ref x0), .val (.int x1)] [] := by first | (simp [entryFrame, mkF, argsToLocals, Value.category]; done) | rfl
theorem d4_0 : decode prog_93_method_5_code 0 = .ok (.aload_n 0, 1) := by decide +kernel
theorem d4_1 : decode prog_93_method_5_code 1 = .ok (.aload_n 0, 1) := by decide +kernel
theorem d4_2 : decode prog_93_method_5_code 2 = .ok (.iload_n 1, 1) := by decide +kernel
theorem d4_3 : decode prog_93_method_5_code 3 = .ok (.invokevirtual 48, 3) := by decide +kernel
theorem d4_6 : decode prog_93_method_5_code 6 = .ok (.iload_n 1, 1) := by decide +kernel
theorem d4_7 : decode prog_93_method_5_code 7 = .ok (.invokevirtual 51, 3) := by decide +kernel
theorem d4_10 : decode prog_93_method_5_code 10 = .ok (.ireturn, 1) := by decide +kernel
set_option maxRecDepth 65536 in
set_option maxHeartbeats 40000000 in
theorem own_first0 (l : Launch) (Z : State) (a0 : Array Value) (hw : ∀ d ∈ tables_1, d.before a0 Z = true) (ws : List Jvm.Cond) (ra rb : Addr) (us : List Int64) (vh : Int32) (vx : Int64)  (h0 : Heap) (n0 : Nat) (Z0 : n0 ≤ h0.size) (E_ra : Exa Z h0 ra "com/example/metrilog/metrilog/Slots") (F_s : Fld Z h0 ra "com/example/metrilog/metrilog/Slots" "slots" "[J" (.ref rb)) (F_h : Fld Z h0 ra "com/example/metrilog/metrilog/Slots" "shift" "I" (.int (28 : Int32))) (A0 : OAJ Z h0 rb us) (hl : us.length = 16) (q0 : OAt us (own_home vh) vx) (hx0 : ¬ vx = 0 → own_hash vx = vh)  :
    MetFree l (⟨"com/example/metrilog/metrilog/Slots", "first", "(I)I"⟩ : MethodName) (head1 (Jvm.Cond.code (⟨"com/example/metrilog/metrilog/Slots", "first", "(I)I"⟩ : MethodName) prog_93_method_5_code 2 (some .int) :: ws) ({ frames := 2, cells := 0, slots := 0, locals := 28 } : Room)) (fun a U => a = #[(.ref ra), (.int vh)] ∧ Z.Warmed39 U.vm ∧ U.heap = h0) (fun _ _ _ _ _ => True) (fun _ U o U' => ∃ v L, o = .returned v ∧ (OPure n0 h0 (some (.int (own_home vh)))) v U'.heap L ∧ FrameEnd U o U' L ({ frames := 2, cells := 0, slots := 0, locals := 28 } : Room).cells ({ frames := 2, cells := 0, slots := 0, locals := 28 } : Room).slots) := by
  refine MetFree.of_bodySF (plainFor_of_name own_pn1) hisR ?_
  intro p e s m args below meth c s₁ Bd hml0 hP hK
  obtain ⟨rfl, hZ, hh⟩ := hP
  have hx := Bd.exec
  have hby := Bd.bytes
  have hret := Bd.returns
  have hlk : meth.locks = false := Bd.notSynchronized
  have hml : c.maxLocals = 2 := hml0
  have hown : s.vm.findClass "com/example/metrilog/metrilog/Slots" = some m.cls := findClass_of_methodNamed Bd.named
  have hnm := (name_of_methodNamed Bd.named Bd.method).1
  have X0 : Stand p l e ({ frames := 2, cells := 0, slots := 0, locals := 28 } : Room) s m #[(.ref ra), (.int vh)] below meth c s₁ [] 0 0 := Stand.of_body Bd
  have e0 : s₁.heap = h0 := by rw [← hh, Bd.state]; rfl
  have N0 := Fr.nil n0
  have pre0 : ∀ t, Steps p.tables e below (s₁.setTop (mkF m 0 #[.val (.ref ra), .val (.int vh)] [])) t → Steps p.tables e below (s₁.setTop (entryFrame m #[(.ref ra), (.int vh)] 2)) t := fun t k => castTop (ef_own_first0 m ra vh) k
  show OGo p e below s (OPure n0 h0 (some (.int (own_home vh)))) ({ frames := 2, cells := 0, slots := 0, locals := 28 } : Room).cells ({ frames := 2, cells := 0, slots := 0, locals := 28 } : Room).slots (s₁.setTop (entryFrame m #[(.ref ra), (.int vh)] 2))
  refine OGo.on pre0 ?_
  show OGo p e below s _ _ _ (s₁.setTop (mkF m 0 #[.val (.ref ra), .val (.int vh)] []))
  refine OGo.on (fun t k => XS.aloadN X0.here hx rfl (hb hby d4_0) rfl rfl k) ?_
  show OGo p e below s _ _ _ (s₁.setTop (mkF m 1 #[.val (.ref ra), .val (.int vh)] [(.ref ra)]))
  refine OGo.on (fun t k => XS.aloadN X0.here hx rfl (hb hby d4_1) rfl rfl k) ?_
  show OGo p e below s _ _ _ (s₁.setTop (mkF m 2 #[.val (.ref ra), .val (.int vh)] [(.ref ra), (.ref ra)]))
  refine OGo.on (fun t k => XS.iloadN X0.here hx rfl (hb hby d4_2) rfl k) ?_
  show OGo p e below s _ _ _ (s₁.setTop (mkF m 3 #[.val (.ref ra), .val (.int vh)] [(.int vh), (.ref ra), (.ref ra)]))
  obtain ⟨cq43, q43, q43'⟩ := E_ra.cell
  obtain ⟨_, _, ⟨T43, L43, k43, n43⟩, -, X43, ⟨Lc43, hQ43, l43, y43, z43⟩, st43⟩ := X0.privateBack hx (y := (⟨"com/example/metrilog/metrilog/Slots", "home", "(I)I"⟩ : MethodName)) hown (mvT hZ (hw _ (List.mem_of_getElem? (i := 27) rfl))) (mvT hZ (hw _ (List.mem_of_getElem? (i := 28) rfl))) (own_selP (by decide) (mvT hZ (hw _ (List.mem_of_getElem? (i := 2) rfl))) (mvP hZ (hw _ (List.mem_of_getElem? (i := 29) rfl))) (mvT hZ (hw _ (List.mem_of_getElem? (i := 28) rfl)))) (Cond.privateMethod_at (mvP hZ (hw _ (List.mem_of_getElem? (i := 29) rfl)) (args := #[]))) (mvT hZ (hw _ (List.mem_of_getElem? (i := 30) rfl))) (by decide) (backOf (W := 1) (own_mhome l Z a0 hw [] ra vh h0 n0 Z0 F_h) hZ (hw _ (List.mem_of_getElem? (i := 30) rfl)) (hw _ (List.mem_of_getElem? (i := 3) rfl)) (by decide) (by decide)) (g := (mkF m 3 #[.val (.ref ra), .val (.int vh)] [(.int vh), (.ref ra), (.ref ra)])) rfl (by rw [hml]; rfl) (Steps.refl _) (a := ra) (by rw [e0]; exact q43) q43' (argsL := [(.int vh)]) (rest := [(.ref ra)]) (lenOf own_pd1 rfl) rfl (by show 2 * 0 + _ ≤ _; exact Nat.le_of_eq rfl) (hb hby d4_3) (fun _ _ => ⟨rfl, e0, (by decide : 0 + 0 ≤ _), (by decide : 0 + 0 ≤ _)⟩)
  dsimp only [Pt.U, Pt.locs, Pt.cells, Pt.slots] at X43 l43 y43 z43 st43 hQ43
  subst l43 y43 z43
  obtain ⟨rfl, N43q, e43⟩ := hQ43
  have N43 := Fr.app N0 N43q
  refine OGo.on (fun t k => st43.trans k) ?_
  show OGo p e below s _ _ _ (T43.setTop (mkF m 6 #[.val (.ref ra), .val (.int vh)] [(.int (own_home vh)), (.ref ra)]))
  refine OGo.on (fun t k => XS.iloadN X43.here hx rfl (hb hby d4_6) rfl k) ?_
  show OGo p e below s _ _ _ (T43.setTop (mkF m 7 #[.val (.ref ra), .val (.int vh)] [(.int vh), (.int (own_home vh)), (.ref ra)]))
  obtain ⟨cq44, q44, q44'⟩ := E_ra.cell
  obtain ⟨_, _, ⟨T44, L44, k44, n44⟩, -, X44, ⟨Lc44, hQ44, l44, y44, z44⟩, st44⟩ := X43.privateBack hx (y := (⟨"com/example/metrilog/metrilog/Slots", "from", "(II)I"⟩ : MethodName)) hown (mvT hZ (hw _ (List.mem_of_getElem? (i := 35) rfl))) (mvT hZ (hw _ (List.mem_of_getElem? (i := 36) rfl))) (own_selP (by decide) (mvT hZ (hw _ (List.mem_of_getElem? (i := 2) rfl))) (mvP hZ (hw _ (List.mem_of_getElem? (i := 37) rfl))) (mvT hZ (hw _ (List.mem_of_getElem? (i := 36) rfl)))) (Cond.privateMethod_at (mvP hZ (hw _ (List.mem_of_getElem? (i := 37) rfl)) (args := #[]))) (mvT hZ (hw _ (List.mem_of_getElem? (i := 38) rfl))) (by decide) (backOf (W := 0) (own_from0 l Z a0 hw [] ra rb us (own_home vh) vh vx h0 n0 Z0 E_ra F_s A0 hl q0 hx0) hZ (hw _ (List.mem_of_getElem? (i := 38) rfl)) (hw _ (List.mem_of_getElem? (i := 3) rfl)) (by decide) (by decide)) (g := (mkF m 7 #[.val (.ref ra), .val (.int vh)] [(.int vh), (.int (own_home vh)), (.ref ra)])) rfl (by rw [hml]; rfl) (Steps.refl _) (a := ra) (by rw [e43]; exact q44) q44' (argsL := [(.int (own_home vh)), (.int vh)]) (rest := []) (lenOf own_pd2 rfl) rfl (by show 2 * 0 + _ ≤ _; exact Nat.le_of_eq rfl) (hb hby d4_7) (fun _ _ => ⟨rfl, e43, (by decide : 0 + 0 ≤ _), (by decide : 0 + 0 ≤ _)⟩)
  dsimp only [Pt.U, Pt.locs, Pt.cells, Pt.slots] at X44 l44 y44 z44 st44 hQ44
  subst l44 y44 z44
  obtain ⟨rfl, N44q, e44⟩ := hQ44
  have N44 := Fr.app N43 N44q
  refine OGo.on (fun t k => st44.trans k) ?_
  show OGo p e below s _ _ _ (T44.setTop (mkF m 10 #[.val (.ref ra), .val (.int vh)] [(.int (own_home vh))]))
  exact OGo.retI X44 hx hret hlk (hb hby d4_10) (opI rfl N44 e44) (by decide) (by decide)
theorem ef_own_first1 (m : MethodId) (x0 : Addr) (x1 : Int32) : entryFrame m #[(.ref x0), (.int x1)] 2 = mkF m 0 #[.val (.ref x0), .val (.int x1)] [] := by first | (simp [entryFrame, mkF, argsToLocals, Value.category]; done) | rfl
set_option maxRecDepth 65536 in
set_option maxHeartbeats 40000000 in
theorem own_first1 (l : Launch) (Z : State) (a0 : Array Value) (hw : ∀ d ∈ tables_1, d.before a0 Z = true) (ws : List Jvm.Cond) (ra rb : Addr) (us : List Int64) (vh : Int32) (vx vy : Int64)  (h0 : Heap) (n0 : Nat) (Z0 : n0 ≤ h0.size) (E_ra : Exa Z h0 ra "com/example/metrilog/metrilog/Slots") (F_s : Fld Z h0 ra "com/example/metrilog/metrilog/Slots" "slots" "[J" (.ref rb)) (F_h : Fld Z h0 ra "com/example/metrilog/metrilog/Slots" "shift" "I" (.int (28 : Int32))) (A0 : OAJ Z h0 rb us) (hl : us.length = 16) (q0 : OAt us (own_home vh) vx) (hn0 : ¬ vx = 0) (hn1 : ¬ own_hash vx = vh) (q1 : OAt us (own_fol (own_home vh)) vy) (hy0 : ¬ vy = 0 → own_hash vy = vh)  :
    MetFree l (⟨"com/example/metrilog/metrilog/Slots", "first", "(I)I"⟩ : MethodName) (head1 (Jvm.Cond.code (⟨"com/example/metrilog/metrilog/Slots", "first", "(I)I"⟩ : MethodName) prog_93_method_5_code 2 (some .int) :: ws) ({ frames := 2, cells := 0, slots := 0, locals := 28 } : Room)) (fun a U => a = #[(.ref ra), (.int vh)] ∧ Z.Warmed39 U.vm ∧ U.heap = h0) (fun _ _ _ _ _ => True) (fun _ U o U' => ∃ v L, o = .returned v ∧ (OPure n0 h0 (some (.int (own_fol (own_home vh))))) v U'.heap L ∧ FrameEnd U o U' L ({ frames := 2, cells := 0, slots := 0, locals := 28 } : Room).cells ({ frames := 2, cells := 0, slots := 0, locals := 28 } : Room).slots) := by
  refine MetFree.of_bodySF (plainFor_of_name own_pn1) hisR ?_
  intro p e s m args below meth c s₁ Bd hml0 hP hK
  obtain ⟨rfl, hZ, hh⟩ := hP
  have hx := Bd.exec
  have hby := Bd.bytes
  have hret := Bd.returns
  have hlk : meth.locks = false := Bd.notSynchronized
  have hml : c.maxLocals = 2 := hml0
  have hown : s.vm.findClass "com/example/metrilog/metrilog/Slots" = some m.cls := findClass_of_methodNamed Bd.named
  have hnm := (name_of_methodNamed Bd.named Bd.method).1
  have X0 : Stand p l e ({ frames := 2, cells := 0, slots := 0, locals := 28 } : Room) s m #[(.ref ra), (.int vh)] below meth c s₁ [] 0 0 := Stand.of_body Bd
  have e0 : s₁.heap = h0 := by rw [← hh, Bd.state]; rfl
  have N0 := Fr.nil n0
  have pre0 : ∀ t, Steps p.tables e below (s₁.setTop (mkF m 0 #[.val (.ref ra), .val (.int vh)] [])) t → Steps p.tables e below (s₁.setTop (entryFrame m #[(.ref ra), (.int vh)] 2)) t := fun t k => castTop (ef_own_first1 m ra vh) k
  show OGo p e below s (OPure n0 h0 (some (.int (own_fol (own_home vh))))) ({ frames := 2, cells := 0, slots := 0, locals := 28 } : Room).cells ({ frames := 2, cells := 0, slots := 0, locals := 28 } : Room).slots (s₁.setTop (entryFrame m #[(.ref ra), (.int vh)] 2))
  refine OGo.on pre0 ?_
  show OGo p e below s _ _ _ (s₁.setTop (mkF m 0 #[.val (.ref ra), .val (.int vh)] []))
  refine OGo.on (fun t k => XS.aloadN X0.here hx rfl (hb hby d4_0) rfl rfl k) ?_
  show OGo p e below s _ _ _ (s₁.setTop (mkF m 1 #[.val (.ref ra), .val (.int vh)] [(.ref ra)]))
  refine OGo.on (fun t k => XS.aloadN X0.here hx rfl (hb hby d4_1) rfl rfl k) ?_
  show OGo p e below s _ _ _ (s₁.setTop (mkF m 2 #[.val (.ref ra), .val (.int vh)] [(.ref ra), (.ref ra)]))
  refine OGo.on (fun t k => XS.iloadN X0.here hx rfl (hb hby d4_2) rfl k) ?_
  show OGo p e below s _ _ _ (s₁.setTop (mkF m 3 #[.val (.ref ra), .val (.int vh)] [(.int vh), (.ref ra), (.ref ra)]))
  obtain ⟨cq45, q45, q45'⟩ := E_ra.cell
  obtain ⟨_, _, ⟨T45, L45, k45, n45⟩, -, X45, ⟨Lc45, hQ45, l45, y45, z45⟩, st45⟩ := X0.privateBack hx (y := (⟨"com/example/metrilog/metrilog/Slots", "home", "(I)I"⟩ : MethodName)) hown (mvT hZ (hw _ (List.mem_of_getElem? (i := 27) rfl))) (mvT hZ (hw _ (List.mem_of_getElem? (i := 28) rfl))) (own_selP (by decide) (mvT hZ (hw _ (List.mem_of_getElem? (i := 2) rfl))) (mvP hZ (hw _ (List.mem_of_getElem? (i := 29) rfl))) (mvT hZ (hw _ (List.mem_of_getElem? (i := 28) rfl)))) (Cond.privateMethod_at (mvP hZ (hw _ (List.mem_of_getElem? (i := 29) rfl)) (args := #[]))) (mvT hZ (hw _ (List.mem_of_getElem? (i := 30) rfl))) (by decide) (backOf (W := 1) (own_mhome l Z a0 hw [] ra vh h0 n0 Z0 F_h) hZ (hw _ (List.mem_of_getElem? (i := 30) rfl)) (hw _ (List.mem_of_getElem? (i := 3) rfl)) (by decide) (by decide)) (g := (mkF m 3 #[.val (.ref ra), .val (.int vh)] [(.int vh), (.ref ra), (.ref ra)])) rfl (by rw [hml]; rfl) (Steps.refl _) (a := ra) (by rw [e0]; exact q45) q45' (argsL := [(.int vh)]) (rest := [(.ref ra)]) (lenOf own_pd1 rfl) rfl (by show 2 * 0 + _ ≤ _; exact Nat.le_of_eq rfl) (hb hby d4_3) (fun _ _ => ⟨rfl, e0, (by decide : 0 + 0 ≤ _), (by decide : 0 + 0 ≤ _)⟩)
  dsimp only [Pt.U, Pt.locs, Pt.cells, Pt.slots] at X45 l45 y45 z45 st45 hQ45
  subst l45 y45 z45
  obtain ⟨rfl, N45q, e45⟩ := hQ45
  have N45 := Fr.app N0 N45q
  refine OGo.on (fun t k => st45.trans k) ?_
  show OGo p e below s _ _ _ (T45.setTop (mkF m 6 #[.val (.ref ra), .val (.int vh)] [(.int (own_home vh)), (.ref ra)]))
  refine OGo.on (fun t k => XS.iloadN X45.here hx rfl (hb hby d4_6) rfl k) ?_
  show OGo p e below s _ _ _ (T45.setTop (mkF m 7 #[.val (.ref ra), .val (.int vh)] [(.int vh), (.int (own_home vh)), (.ref ra)]))
  obtain ⟨cq46, q46, q46'⟩ := E_ra.cell
  obtain ⟨_, _, ⟨T46, L46, k46, n46⟩, -, X46, ⟨Lc46, hQ46, l46, y46, z46⟩, st46⟩ := X45.privateBack hx (y := (⟨"com/example/metrilog/metrilog/Slots", "from", "(II)I"⟩ : MethodName)) hown (mvT hZ (hw _ (List.mem_of_getElem? (i := 35) rfl))) (mvT hZ (hw _ (List.mem_of_getElem? (i := 36) rfl))) (own_selP (by decide) (mvT hZ (hw _ (List.mem_of_getElem? (i := 2) rfl))) (mvP hZ (hw _ (List.mem_of_getElem? (i := 37) rfl))) (mvT hZ (hw _ (List.mem_of_getElem? (i := 36) rfl)))) (Cond.privateMethod_at (mvP hZ (hw _ (List.mem_of_getElem? (i := 37) rfl)) (args := #[]))) (mvT hZ (hw _ (List.mem_of_getElem? (i := 38) rfl))) (by decide) (backOf (W := 0) (own_from1 l Z a0 hw [] ra rb us (own_home vh) vh vx vy h0 n0 Z0 E_ra F_s A0 hl q0 hn0 hn1 q1 hy0) hZ (hw _ (List.mem_of_getElem? (i := 38) rfl)) (hw _ (List.mem_of_getElem? (i := 3) rfl)) (by decide) (by decide)) (g := (mkF m 7 #[.val (.ref ra), .val (.int vh)] [(.int vh), (.int (own_home vh)), (.ref ra)])) rfl (by rw [hml]; rfl) (Steps.refl _) (a := ra) (by rw [e45]; exact q46) q46' (argsL := [(.int (own_home vh)), (.int vh)]) (rest := []) (lenOf own_pd2 rfl) rfl (by show 2 * 0 + _ ≤ _; exact Nat.le_of_eq rfl) (hb hby d4_7) (fun _ _ => ⟨rfl, e45, (by decide : 0 + 0 ≤ _), (by decide : 0 + 0 ≤ _)⟩)
  dsimp only [Pt.U, Pt.locs, Pt.cells, Pt.slots] at X46 l46 y46 z46 st46 hQ46
  subst l46 y46 z46
  obtain ⟨rfl, N46q, e46⟩ := hQ46
  have N46 := Fr.app N45 N46q
  refine OGo.on (fun t k => st46.trans k) ?_
  show OGo p e below s _ _ _ (T46.setTop (mkF m 10 #[.val (.ref ra), .val (.int vh)] [(.int (own_fol (own_home vh)))]))
  exact OGo.retI X46 hx hret hlk (hb hby d4_10) (opI rfl N46 e46) (by decide) (by decide)
theorem ef_own_mnext (m : MethodId) (x0 : Addr) (x1 : Int32) (x2 : Int32) : entryFrame m #[(.ref x0), (.int x1), (.int x2)] 3 = mkF m 0 #[.val (.ref x0), .val (.int x1), .val (.int x2)] [] := by first | (simp [entryFrame, mkF, argsToLocals, Value.category]; done) | rfl
theorem d12_0 : decode prog_93_method_6_code 0 = .ok (.aload_n 0, 1) := by decide +kernel
theorem d12_1 : decode prog_93_method_6_code 1 = .ok (.aload_n 0, 1) := by decide +kernel
theorem d12_2 : decode prog_93_method_6_code 2 = .ok (.iload_n 1, 1) := by decide +kernel
theorem d12_3 : decode prog_93_method_6_code 3 = .ok (.invokevirtual 54, 3) := by decide +kernel
theorem d12_6 : decode prog_93_method_6_code 6 = .ok (.iload_n 2, 1) := by decide +kernel
theorem d12_7 : decode prog_93_method_6_code 7 = .ok (.invokevirtual 51, 3) := by decide +kernel
theorem d12_10 : decode prog_93_method_6_code 10 = .ok (.ireturn, 1) := by decide +kernel
set_option maxRecDepth 65536 in
set_option maxHeartbeats 40000000 in
theorem own_mnext (l : Launch) (Z : State) (a0 : Array Value) (hw : ∀ d ∈ tables_1, d.before a0 Z = true) (ws : List Jvm.Cond) (ra rb : Addr) (us : List Int64) (vi vh : Int32) (vx : Int64)  (h0 : Heap) (n0 : Nat) (Z0 : n0 ≤ h0.size) (E_ra : Exa Z h0 ra "com/example/metrilog/metrilog/Slots") (F_s : Fld Z h0 ra "com/example/metrilog/metrilog/Slots" "slots" "[J" (.ref rb)) (A0 : OAJ Z h0 rb us) (hl : us.length = 16) (q0 : OAt us (own_fol vi) vx) (hx0 : ¬ vx = 0 → own_hash vx = vh)  :
    MetFree l (⟨"com/example/metrilog/metrilog/Slots", "next", "(II)I"⟩ : MethodName) (head1 (Jvm.Cond.code (⟨"com/example/metrilog/metrilog/Slots", "next", "(II)I"⟩ : MethodName) prog_93_method_6_code 3 (some .int) :: ws) ({ frames := 2, cells := 0, slots := 0, locals := 28 } : Room)) (fun a U => a = #[(.ref ra), (.int vi), (.int vh)] ∧ Z.Warmed39 U.vm ∧ U.heap = h0) (fun _ _ _ _ _ => True) (fun _ U o U' => ∃ v L, o = .returned v ∧ (OPure n0 h0 (some (.int (own_fol vi)))) v U'.heap L ∧ FrameEnd U o U' L ({ frames := 2, cells := 0, slots := 0, locals := 28 } : Room).cells ({ frames := 2, cells := 0, slots := 0, locals := 28 } : Room).slots) := by
  refine MetFree.of_bodySF (plainFor_of_name own_pn1) hisR ?_
  intro p e s m args below meth c s₁ Bd hml0 hP hK
  obtain ⟨rfl, hZ, hh⟩ := hP
  have hx := Bd.exec
  have hby := Bd.bytes
  have hret := Bd.returns
  have hlk : meth.locks = false := Bd.notSynchronized
  have hml : c.maxLocals = 3 := hml0
  have hown : s.vm.findClass "com/example/metrilog/metrilog/Slots" = some m.cls := findClass_of_methodNamed Bd.named
  have hnm := (name_of_methodNamed Bd.named Bd.method).1
  have X0 : Stand p l e ({ frames := 2, cells := 0, slots := 0, locals := 28 } : Room) s m #[(.ref ra), (.int vi), (.int vh)] below meth c s₁ [] 0 0 := Stand.of_body Bd
  have e0 : s₁.heap = h0 := by rw [← hh, Bd.state]; rfl
  have N0 := Fr.nil n0
  have pre0 : ∀ t, Steps p.tables e below (s₁.setTop (mkF m 0 #[.val (.ref ra), .val (.int vi), .val (.int vh)] [])) t → Steps p.tables e below (s₁.setTop (entryFrame m #[(.ref ra), (.int vi), (.int vh)] 3)) t := fun t k => castTop (ef_own_mnext m ra vi vh) k
  show OGo p e below s (OPure n0 h0 (some (.int (own_fol vi)))) ({ frames := 2, cells := 0, slots := 0, locals := 28 } : Room).cells ({ frames := 2, cells := 0, slots := 0, locals := 28 } : Room).slots (s₁.setTop (entryFrame m #[(.ref ra), (.int vi), (.int vh)] 3))
  refine OGo.on pre0 ?_
  show OGo p e below s _ _ _ (s₁.setTop (mkF m 0 #[.val (.ref ra), .val (.int vi), .val (.int vh)] []))
  refine OGo.on (fun t k => XS.aloadN X0.here hx rfl (hb hby d12_0) rfl rfl k) ?_
  show OGo p e below s _ _ _ (s₁.setTop (mkF m 1 #[.val (.ref ra), .val (.int vi), .val (.int vh)] [(.ref ra)]))
  refine OGo.on (fun t k => XS.aloadN X0.here hx rfl (hb hby d12_1) rfl rfl k) ?_
  show OGo p e below s _ _ _ (s₁.setTop (mkF m 2 #[.val (.ref ra), .val (.int vi), .val (.int vh)] [(.ref ra), (.ref ra)]))
  refine OGo.on (fun t k => XS.iloadN X0.here hx rfl (hb hby d12_2) rfl k) ?_
  show OGo p e below s _ _ _ (s₁.setTop (mkF m 3 #[.val (.ref ra), .val (.int vi), .val (.int vh)] [(.int vi), (.ref ra), (.ref ra)]))
  obtain ⟨cq47, q47, q47'⟩ := E_ra.cell
  obtain ⟨_, _, ⟨T47, L47, k47, n47⟩, -, X47, ⟨Lc47, hQ47, l47, y47, z47⟩, st47⟩ := X0.privateBack hx (y := (⟨"com/example/metrilog/metrilog/Slots", "following", "(I)I"⟩ : MethodName)) hown (mvT hZ (hw _ (List.mem_of_getElem? (i := 57) rfl))) (mvT hZ (hw _ (List.mem_of_getElem? (i := 58) rfl))) (own_selP (by decide) (mvT hZ (hw _ (List.mem_of_getElem? (i := 2) rfl))) (mvP hZ (hw _ (List.mem_of_getElem? (i := 59) rfl))) (mvT hZ (hw _ (List.mem_of_getElem? (i := 58) rfl)))) (Cond.privateMethod_at (mvP hZ (hw _ (List.mem_of_getElem? (i := 59) rfl)) (args := #[]))) (mvT hZ (hw _ (List.mem_of_getElem? (i := 60) rfl))) (by decide) (backOf (W := 1) (own_mfol l Z a0 hw [] ra rb us vi h0 n0 Z0 F_s A0 hl) hZ (hw _ (List.mem_of_getElem? (i := 60) rfl)) (hw _ (List.mem_of_getElem? (i := 3) rfl)) (by decide) (by decide)) (g := (mkF m 3 #[.val (.ref ra), .val (.int vi), .val (.int vh)] [(.int vi), (.ref ra), (.ref ra)])) rfl (by rw [hml]; rfl) (Steps.refl _) (a := ra) (by rw [e0]; exact q47) q47' (argsL := [(.int vi)]) (rest := [(.ref ra)]) (lenOf own_pd1 rfl) rfl (by show 2 * 0 + _ ≤ _; exact Nat.le_of_eq rfl) (hb hby d12_3) (fun _ _ => ⟨rfl, e0, (by decide : 0 + 0 ≤ _), (by decide : 0 + 0 ≤ _)⟩)
  dsimp only [Pt.U, Pt.locs, Pt.cells, Pt.slots] at X47 l47 y47 z47 st47 hQ47
  subst l47 y47 z47
  obtain ⟨rfl, N47q, e47⟩ := hQ47
  have N47 := Fr.app N0 N47q
  refine OGo.on (fun t k => st47.trans k) ?_
  show OGo p e below s _ _ _ (T47.setTop (mkF m 6 #[.val (.ref ra), .val (.int vi), .val (.int vh)] [(.int (own_fol vi)), (.ref ra)]))
  refine OGo.on (fun t k => XS.iloadN X47.here hx rfl (hb hby d12_6) rfl k) ?_
  show OGo p e below s _ _ _ (T47.setTop (mkF m 7 #[.val (.ref ra), .val (.int vi), .val (.int vh)] [(.int vh), (.int (own_fol vi)), (.ref ra)]))
  obtain ⟨cq48, q48, q48'⟩ := E_ra.cell
  obtain ⟨_, _, ⟨T48, L48, k48, n48⟩, -, X48, ⟨Lc48, hQ48, l48, y48, z48⟩, st48⟩ := X47.privateBack hx (y := (⟨"com/example/metrilog/metrilog/Slots", "from", "(II)I"⟩ : MethodName)) hown (mvT hZ (hw _ (List.mem_of_getElem? (i := 35) rfl))) (mvT hZ (hw _ (List.mem_of_getElem? (i := 36) rfl))) (own_selP (by decide) (mvT hZ (hw _ (List.mem_of_getElem? (i := 2) rfl))) (mvP hZ (hw _ (List.mem_of_getElem? (i := 37) rfl))) (mvT hZ (hw _ (List.mem_of_getElem? (i := 36) rfl)))) (Cond.privateMethod_at (mvP hZ (hw _ (List.mem_of_getElem? (i := 37) rfl)) (args := #[]))) (mvT hZ (hw _ (List.mem_of_getElem? (i := 38) rfl))) (by decide) (backOf (W := 0) (own_from0 l Z a0 hw [] ra rb us (own_fol vi) vh vx h0 n0 Z0 E_ra F_s A0 hl q0 hx0) hZ (hw _ (List.mem_of_getElem? (i := 38) rfl)) (hw _ (List.mem_of_getElem? (i := 3) rfl)) (by decide) (by decide)) (g := (mkF m 7 #[.val (.ref ra), .val (.int vi), .val (.int vh)] [(.int vh), (.int (own_fol vi)), (.ref ra)])) rfl (by rw [hml]; rfl) (Steps.refl _) (a := ra) (by rw [e47]; exact q48) q48' (argsL := [(.int (own_fol vi)), (.int vh)]) (rest := []) (lenOf own_pd2 rfl) rfl (by show 2 * 0 + _ ≤ _; exact Nat.le_of_eq rfl) (hb hby d12_7) (fun _ _ => ⟨rfl, e47, (by decide : 0 + 0 ≤ _), (by decide : 0 + 0 ≤ _)⟩)
  dsimp only [Pt.U, Pt.locs, Pt.cells, Pt.slots] at X48 l48 y48 z48 st48 hQ48
  subst l48 y48 z48
  obtain ⟨rfl, N48q, e48⟩ := hQ48
  have N48 := Fr.app N47 N48q
  refine OGo.on (fun t k => st48.trans k) ?_
  show OGo p e below s _ _ _ (T48.setTop (mkF m 10 #[.val (.ref ra), .val (.int vi), .val (.int vh)] [(.int (own_fol vi))]))
  exact OGo.retI X48 hx hret hlk (hb hby d12_10) (opI rfl N48 e48) (by decide) (by decide)
theorem ef_own_mentry (m : MethodId) (x0 : Addr) (x1 : Int32) : entryFrame m #[(.ref x0), (.int x1)] 2 = mkF m 0 #[.val (.ref x0), .val (.int x1)] [] := by first | (simp [entryFrame, mkF, argsToLocals, Value.category]; done) | rfl
theorem d10_0 : decode prog_93_method_7_code 0 = .ok (.aload_n 0, 1) := by decide +kernel
theorem d10_1 : decode prog_93_method_7_code 1 = .ok (.getfield 16, 3) := by decide +kernel
theorem d10_4 : decode prog_93_method_7_code 4 = .ok (.iload_n 1, 1) := by decide +kernel
theorem d10_5 : decode prog_93_method_7_code 5 = .ok (.laload, 1) := by decide +kernel
theorem d10_6 : decode prog_93_method_7_code 6 = .ok (.l2i, 1) := by decide +kernel
theorem d10_7 : decode prog_93_method_7_code 7 = .ok (.iconst 1, 1) := by decide +kernel
theorem d10_8 : decode prog_93_method_7_code 8 = .ok (.isub, 1) := by decide +kernel
theorem d10_9 : decode prog_93_method_7_code 9 = .ok (.ireturn, 1) := by decide +kernel
set_option maxRecDepth 65536 in
set_option maxHeartbeats 40000000 in
theorem own_mentry (l : Launch) (Z : State) (a0 : Array Value) (hw : ∀ d ∈ tables_1, d.before a0 Z = true) (ws : List Jvm.Cond) (ra rb : Addr) (us : List Int64) (vi : Int32) (vx : Int64)  (h0 : Heap) (n0 : Nat) (Z0 : n0 ≤ h0.size) (F_s : Fld Z h0 ra "com/example/metrilog/metrilog/Slots" "slots" "[J" (.ref rb)) (A0 : OAJ Z h0 rb us) (hl : us.length = 16) (q0 : OAt us vi vx)  :
    MetFree l (⟨"com/example/metrilog/metrilog/Slots", "entry", "(I)I"⟩ : MethodName) (head1 (Jvm.Cond.code (⟨"com/example/metrilog/metrilog/Slots", "entry", "(I)I"⟩ : MethodName) prog_93_method_7_code 2 (some .int) :: ws) ({ frames := 0, cells := 0, slots := 0, locals := 0 } : Room)) (fun a U => a = #[(.ref ra), (.int vi)] ∧ Z.Warmed39 U.vm ∧ U.heap = h0) (fun _ _ _ _ _ => True) (fun _ U o U' => ∃ v L, o = .returned v ∧ (OPure n0 h0 (some (.int (own_entry vx)))) v U'.heap L ∧ FrameEnd U o U' L ({ frames := 0, cells := 0, slots := 0, locals := 0 } : Room).cells ({ frames := 0, cells := 0, slots := 0, locals := 0 } : Room).slots) := by
  refine MetFree.of_bodySF (plainFor_of_name own_pn1) hisR ?_
  intro p e s m args below meth c s₁ Bd hml0 hP hK
  obtain ⟨rfl, hZ, hh⟩ := hP
  have hx := Bd.exec
  have hby := Bd.bytes
  have hret := Bd.returns
  have hlk : meth.locks = false := Bd.notSynchronized
  have hml : c.maxLocals = 2 := hml0
  have hown : s.vm.findClass "com/example/metrilog/metrilog/Slots" = some m.cls := findClass_of_methodNamed Bd.named
  have hnm := (name_of_methodNamed Bd.named Bd.method).1
  have X0 : Stand p l e ({ frames := 0, cells := 0, slots := 0, locals := 0 } : Room) s m #[(.ref ra), (.int vi)] below meth c s₁ [] 0 0 := Stand.of_body Bd
  have e0 : s₁.heap = h0 := by rw [← hh, Bd.state]; rfl
  have N0 := Fr.nil n0
  have pre0 : ∀ t, Steps p.tables e below (s₁.setTop (mkF m 0 #[.val (.ref ra), .val (.int vi)] [])) t → Steps p.tables e below (s₁.setTop (entryFrame m #[(.ref ra), (.int vi)] 2)) t := fun t k => castTop (ef_own_mentry m ra vi) k
  show OGo p e below s (OPure n0 h0 (some (.int (own_entry vx)))) ({ frames := 0, cells := 0, slots := 0, locals := 0 } : Room).cells ({ frames := 0, cells := 0, slots := 0, locals := 0 } : Room).slots (s₁.setTop (entryFrame m #[(.ref ra), (.int vi)] 2))
  refine OGo.on pre0 ?_
  show OGo p e below s _ _ _ (s₁.setTop (mkF m 0 #[.val (.ref ra), .val (.int vi)] []))
  refine OGo.on (fun t k => XS.aloadN X0.here hx rfl (hb hby d10_0) rfl rfl k) ?_
  show OGo p e below s _ _ _ (s₁.setTop (mkF m 1 #[.val (.ref ra), .val (.int vi)] [(.ref ra)]))
  obtain ⟨T49, X49, e49, st49⟩ := getF X0 hx hZ hown (host := "") (Or.inl (hw _ (List.mem_of_getElem? (i := 13) rfl))) Via.refl e0 F_s (g := (mkF m 1 #[.val (.ref ra), .val (.int vi)] [(.ref ra)])) rfl rfl (hb hby d10_1)
  refine OGo.on st49 ?_
  show OGo p e below s _ _ _ (T49.setTop (mkF m 4 #[.val (.ref ra), .val (.int vi)] [(.ref rb)]))
  refine OGo.on (fun t k => XS.iloadN X49.here hx rfl (hb hby d10_4) rfl k) ?_
  show OGo p e below s _ _ _ (T49.setTop (mkF m 5 #[.val (.ref ra), .val (.int vi)] [(.int vi), (.ref rb)]))
  refine OGo.on (fun t k => OAJ.la X49 hx hZ e49 A0 q0 (hb hby d10_5) k) ?_
  show OGo p e below s _ _ _ (T49.setTop (mkF m 6 #[.val (.ref ra), .val (.int vi)] [(.long vx)]))
  refine OGo.on (fun t k => XS.l2i X49.here hx rfl (hb hby d10_6) rfl k) ?_
  show OGo p e below s _ _ _ (T49.setTop (mkF m 7 #[.val (.ref ra), .val (.int vi)] [(.int (vx.toInt32))]))
  refine OGo.on (fun t k => XS.iconst X49.here hx rfl (hb hby d10_7) k) ?_
  show OGo p e below s _ _ _ (T49.setTop (mkF m 8 #[.val (.ref ra), .val (.int vi)] [(.int (1 : Int32)), (.int (vx.toInt32))]))
  refine OGo.on (fun t k => XS.isub X49.here hx rfl (hb hby d10_8) rfl k) ?_
  show OGo p e below s _ _ _ (T49.setTop (mkF m 9 #[.val (.ref ra), .val (.int vi)] [(.int ((vx.toInt32) - (1 : Int32)))]))
  exact OGo.retI X49 hx hret hlk (hb hby d10_9) (opI rfl N0 e49) (by decide) (by decide)
def Q_own_mrep (Z : State) (ra rb : Addr) (us : List Int64) (vi vc : Int32) (vx : Int64)  (h0 : Heap) (n0 : Nat) (v : Option Value) (h : Heap) (L : List Loc) : Prop := v = none ∧ Fr n0 L ∧ Keep h0 h [rb] ∧ OAJ Z h rb (us.set vi.toNatClampNeg (own_rep vx vc))
theorem ef_own_mrep (m : MethodId) (x0 : Addr) (x1 : Int32) (x2 : Int32) : entryFrame m #[(.ref x0), (.int x1), (.int x2)] 3 = mkF m 0 #[.val (.ref x0), .val (.int x1), .val (.int x2)] [] := by first | (simp [entryFrame, mkF, argsToLocals, Value.category]; done) | rfl
theorem d9_0 : decode prog_93_method_8_code 0 = .ok (.aload_n 0, 1) := by decide +kernel
theorem d9_1 : decode prog_93_method_8_code 1 = .ok (.getfield 16, 3) := by decide +kernel
theorem d9_4 : decode prog_93_method_8_code 4 = .ok (.iload_n 1, 1) := by decide +kernel
theorem d9_5 : decode prog_93_method_8_code 5 = .ok (.aload_n 0, 1) := by decide +kernel
theorem d9_6 : decode prog_93_method_8_code 6 = .ok (.getfield 16, 3) := by decide +kernel
theorem d9_9 : decode prog_93_method_8_code 9 = .ok (.iload_n 1, 1) := by decide +kernel
theorem d9_10 : decode prog_93_method_8_code 10 = .ok (.laload, 1) := by decide +kernel
theorem d9_11 : decode prog_93_method_8_code 11 = .ok (.ldc2_w 57, 3) := by decide +kernel
theorem d9_14 : decode prog_93_method_8_code 14 = .ok (.land, 1) := by decide +kernel
theorem d9_15 : decode prog_93_method_8_code 15 = .ok (.iload_n 2, 1) := by decide +kernel
theorem d9_16 : decode prog_93_method_8_code 16 = .ok (.i2l, 1) := by decide +kernel
theorem d9_17 : decode prog_93_method_8_code 17 = .ok (.lconst 1, 1) := by decide +kernel
theorem d9_18 : decode prog_93_method_8_code 18 = .ok (.ladd, 1) := by decide +kernel
theorem d9_19 : decode prog_93_method_8_code 19 = .ok (.lor, 1) := by decide +kernel
theorem d9_20 : decode prog_93_method_8_code 20 = .ok (.lastore, 1) := by decide +kernel
theorem d9_21 : decode prog_93_method_8_code 21 = .ok (.return_, 1) := by decide +kernel
set_option maxRecDepth 65536 in
set_option maxHeartbeats 40000000 in
theorem own_mrep (l : Launch) (Z : State) (a0 : Array Value) (hw : ∀ d ∈ tables_1, d.before a0 Z = true) (ws : List Jvm.Cond) (ra rb : Addr) (us : List Int64) (vi vc : Int32) (vx : Int64)  (h0 : Heap) (n0 : Nat) (Z0 : n0 ≤ h0.size) (g_rb : n0 ≤ rb) (hab : ra ≠ rb) (F_s : Fld Z h0 ra "com/example/metrilog/metrilog/Slots" "slots" "[J" (.ref rb)) (A0 : OAJ Z h0 rb us) (hl : us.length = 16) (hi : In16 vi) (q0 : OAt us vi vx)  :
    MetFree l (⟨"com/example/metrilog/metrilog/Slots", "replace", "(II)V"⟩ : MethodName) (head1 (Jvm.Cond.code (⟨"com/example/metrilog/metrilog/Slots", "replace", "(II)V"⟩ : MethodName) prog_93_method_8_code 3 none :: ws) ({ frames := 0, cells := 0, slots := 0, locals := 0 } : Room)) (fun a U => a = #[(.ref ra), (.int vi), (.int vc)] ∧ Z.Warmed39 U.vm ∧ U.heap = h0) (fun _ _ _ _ _ => True) (fun _ U o U' => ∃ v L, o = .returned v ∧ (Q_own_mrep Z ra rb us vi vc vx h0 n0) v U'.heap L ∧ FrameEnd U o U' L ({ frames := 0, cells := 0, slots := 0, locals := 0 } : Room).cells ({ frames := 0, cells := 0, slots := 0, locals := 0 } : Room).slots) := by
  refine MetFree.of_bodySF (plainFor_of_name own_pn1) hisR ?_
  intro p e s m args below meth c s₁ Bd hml0 hP hK
  obtain ⟨rfl, hZ, hh⟩ := hP
  have hx := Bd.exec
  have hby := Bd.bytes
  have hret := Bd.returns
  have hlk : meth.locks = false := Bd.notSynchronized
  have hml : c.maxLocals = 3 := hml0
  have hown : s.vm.findClass "com/example/metrilog/metrilog/Slots" = some m.cls := findClass_of_methodNamed Bd.named
  have hnm := (name_of_methodNamed Bd.named Bd.method).1
  have X0 : Stand p l e ({ frames := 0, cells := 0, slots := 0, locals := 0 } : Room) s m #[(.ref ra), (.int vi), (.int vc)] below meth c s₁ [] 0 0 := Stand.of_body Bd
  have e0 : s₁.heap = h0 := by rw [← hh, Bd.state]; rfl
  have N0 := Fr.nil n0
  have pre0 : ∀ t, Steps p.tables e below (s₁.setTop (mkF m 0 #[.val (.ref ra), .val (.int vi), .val (.int vc)] [])) t → Steps p.tables e below (s₁.setTop (entryFrame m #[(.ref ra), (.int vi), (.int vc)] 3)) t := fun t k => castTop (ef_own_mrep m ra vi vc) k
  have K0 : Keep h0 h0 [rb] := Keep.refl _ _
  show OGo p e below s (Q_own_mrep Z ra rb us vi vc vx h0 n0) ({ frames := 0, cells := 0, slots := 0, locals := 0 } : Room).cells ({ frames := 0, cells := 0, slots := 0, locals := 0 } : Room).slots (s₁.setTop (entryFrame m #[(.ref ra), (.int vi), (.int vc)] 3))
  refine OGo.on pre0 ?_
  show OGo p e below s _ _ _ (s₁.setTop (mkF m 0 #[.val (.ref ra), .val (.int vi), .val (.int vc)] []))
  refine OGo.on (fun t k => XS.aloadN X0.here hx rfl (hb hby d9_0) rfl rfl k) ?_
  show OGo p e below s _ _ _ (s₁.setTop (mkF m 1 #[.val (.ref ra), .val (.int vi), .val (.int vc)] [(.ref ra)]))
  obtain ⟨T50, X50, e50, st50⟩ := getF X0 hx hZ hown (host := "") (Or.inl (hw _ (List.mem_of_getElem? (i := 13) rfl))) Via.refl e0 F_s (g := (mkF m 1 #[.val (.ref ra), .val (.int vi), .val (.int vc)] [(.ref ra)])) rfl rfl (hb hby d9_1)
  refine OGo.on st50 ?_
  show OGo p e below s _ _ _ (T50.setTop (mkF m 4 #[.val (.ref ra), .val (.int vi), .val (.int vc)] [(.ref rb)]))
  refine OGo.on (fun t k => XS.iloadN X50.here hx rfl (hb hby d9_4) rfl k) ?_
  show OGo p e below s _ _ _ (T50.setTop (mkF m 5 #[.val (.ref ra), .val (.int vi), .val (.int vc)] [(.int vi), (.ref rb)]))
  refine OGo.on (fun t k => XS.aloadN X50.here hx rfl (hb hby d9_5) rfl rfl k) ?_
  show OGo p e below s _ _ _ (T50.setTop (mkF m 6 #[.val (.ref ra), .val (.int vi), .val (.int vc)] [(.ref ra), (.int vi), (.ref rb)]))
  obtain ⟨T51, X51, e51, st51⟩ := getF X50 hx hZ hown (host := "") (Or.inl (hw _ (List.mem_of_getElem? (i := 13) rfl))) Via.refl e50 F_s (g := (mkF m 6 #[.val (.ref ra), .val (.int vi), .val (.int vc)] [(.ref ra), (.int vi), (.ref rb)])) rfl rfl (hb hby d9_6)
  refine OGo.on st51 ?_
  show OGo p e below s _ _ _ (T51.setTop (mkF m 9 #[.val (.ref ra), .val (.int vi), .val (.int vc)] [(.ref rb), (.int vi), (.ref rb)]))
  refine OGo.on (fun t k => XS.iloadN X51.here hx rfl (hb hby d9_9) rfl k) ?_
  show OGo p e below s _ _ _ (T51.setTop (mkF m 10 #[.val (.ref ra), .val (.int vi), .val (.int vc)] [(.int vi), (.ref rb), (.int vi), (.ref rb)]))
  refine OGo.on (fun t k => OAJ.la X51 hx hZ e51 A0 q0 (hb hby d9_10) k) ?_
  show OGo p e below s _ _ _ (T51.setTop (mkF m 11 #[.val (.ref ra), .val (.int vi), .val (.int vc)] [(.long vx), (.int vi), (.ref rb)]))
  refine OGo.on (fun t k => X51.ldc2J hx hown (mvT hZ (hw _ (List.mem_of_getElem? (i := 51) rfl))) (g := (mkF m 11 #[.val (.ref ra), .val (.int vi), .val (.int vc)] [(.long vx), (.int vi), (.ref rb)])) rfl (hb hby d9_11) k) ?_
  show OGo p e below s _ _ _ (T51.setTop (mkF m 14 #[.val (.ref ra), .val (.int vi), .val (.int vc)] [(.long (-4294967296 : Int64)), (.long vx), (.int vi), (.ref rb)]))
  refine OGo.on (fun t k => XS.land X51.here hx rfl (hb hby d9_14) rfl k) ?_
  show OGo p e below s _ _ _ (T51.setTop (mkF m 15 #[.val (.ref ra), .val (.int vi), .val (.int vc)] [(.long (vx &&& (-4294967296 : Int64))), (.int vi), (.ref rb)]))
  refine OGo.on (fun t k => XS.iloadN X51.here hx rfl (hb hby d9_15) rfl k) ?_
  show OGo p e below s _ _ _ (T51.setTop (mkF m 16 #[.val (.ref ra), .val (.int vi), .val (.int vc)] [(.int vc), (.long (vx &&& (-4294967296 : Int64))), (.int vi), (.ref rb)]))
  refine OGo.on (fun t k => XS.i2l X51.here hx rfl (hb hby d9_16) rfl k) ?_
  show OGo p e below s _ _ _ (T51.setTop (mkF m 17 #[.val (.ref ra), .val (.int vi), .val (.int vc)] [(.long (vc.toInt64)), (.long (vx &&& (-4294967296 : Int64))), (.int vi), (.ref rb)]))
  refine OGo.on (fun t k => XS.lconst X51.here hx rfl (hb hby d9_17) k) ?_
  show OGo p e below s _ _ _ (T51.setTop (mkF m 18 #[.val (.ref ra), .val (.int vi), .val (.int vc)] [(.long (1 : Int64)), (.long (vc.toInt64)), (.long (vx &&& (-4294967296 : Int64))), (.int vi), (.ref rb)]))
  refine OGo.on (fun t k => XS.ladd X51.here hx rfl (hb hby d9_18) rfl k) ?_
  show OGo p e below s _ _ _ (T51.setTop (mkF m 19 #[.val (.ref ra), .val (.int vi), .val (.int vc)] [(.long ((vc.toInt64) + (1 : Int64))), (.long (vx &&& (-4294967296 : Int64))), (.int vi), (.ref rb)]))
  refine OGo.on (fun t k => XS.lor X51.here hx rfl (hb hby d9_19) rfl k) ?_
  show OGo p e below s _ _ _ (T51.setTop (mkF m 20 #[.val (.ref ra), .val (.int vi), .val (.int vc)] [(.long ((vx &&& (-4294967296 : Int64)) ||| ((vc.toInt64) + (1 : Int64)))), (.int vi), (.ref rb)]))
  obtain ⟨T52, h52, X52, e52, W52, A52, st52⟩ := OAJ.stJ X51 hx hZ e51 A0 (j := vi) (x := ((vx &&& (-4294967296 : Int64)) ||| ((vc.toInt64) + (1 : Int64)))) (in_ok hi).1 (by rw [hl]; exact (in_ok hi).2) (Ls := #[.val (.ref ra), .val (.int vi), .val (.int vc)]) (rest := []) (hb hby d9_20)
  have f53 : Fld Z h52 ra "com/example/metrilog/metrilog/Slots" "slots" "[J" (.ref rb) := F_s.other W52 (Or.inl hab)
  have Z54 : n0 ≤ h52.size := Nat.le_trans Z0 (Nat.le_of_eq W52.size.symm)
  have N55 := Fr.snoc X52 N0 g_rb
  have K56 : Keep h0 h52 [rb] := K0.wr W52 (Or.inl (List.mem_of_getElem? (i := 0) rfl))
  have V52 : OAJ Z h52 rb (us.set vi.toNatClampNeg ((vx &&& (-4294967296 : Int64)) ||| ((vc.toInt64) + (1 : Int64)))) := A52
  refine OGo.on st52 ?_
  show OGo p e below s _ _ _ (T52.setTop (mkF m 21 #[.val (.ref ra), .val (.int vi), .val (.int vc)] []))
  exact OGo.ret0 X52 hx hret hlk (hb hby d9_21) ⟨rfl, N55, by rw [e52]; exact K56, by rw [e52]; exact V52⟩ (by decide) (by decide)
def Q_own_mfill (Z : State) (ra rb : Addr) (us : List Int64) (vi vh ve vf : Int32)  (h0 : Heap) (n0 : Nat) (v : Option Value) (h : Heap) (L : List Loc) : Prop := v = none ∧ Fr n0 L ∧ Keep h0 h [ra, rb] ∧ Fld Z h ra "com/example/metrilog/metrilog/Slots" "slots" "[J" (.ref rb) ∧ Fld Z h ra "com/example/metrilog/metrilog/Slots" "shift" "I" (.int (28 : Int32)) ∧ Fld Z h ra "com/example/metrilog/metrilog/Slots" "filled" "I" (.int (vf + 1)) ∧ OAJ Z h rb (us.set vi.toNatClampNeg (own_val vh ve))
theorem ef_own_mfill (m : MethodId) (x0 : Addr) (x1 : Int32) (x2 : Int32) (x3 : Int32) : entryFrame m #[(.ref x0), (.int x1), (.int x2), (.int x3)] 4 = mkF m 0 #[.val (.ref x0), .val (.int x1), .val (.int x2), .val (.int x3)] [] := by first | (simp [entryFrame, mkF, argsToLocals, Value.category]; done) | rfl
theorem d8_0 : decode prog_93_method_9_code 0 = .ok (.aload_n 0, 1) := by decide +kernel
theorem d8_1 : decode prog_93_method_9_code 1 = .ok (.getfield 16, 3) := by decide +kernel
theorem d8_4 : decode prog_93_method_9_code 4 = .ok (.iload_n 1, 1) := by decide +kernel
theorem d8_5 : decode prog_93_method_9_code 5 = .ok (.iload_n 2, 1) := by decide +kernel
theorem d8_6 : decode prog_93_method_9_code 6 = .ok (.i2l, 1) := by decide +kernel
theorem d8_7 : decode prog_93_method_9_code 7 = .ok (.bipush 32, 2) := by decide +kernel
theorem d8_9 : decode prog_93_method_9_code 9 = .ok (.lshl, 1) := by decide +kernel
theorem d8_10 : decode prog_93_method_9_code 10 = .ok (.iload_n 3, 1) := by decide +kernel
theorem d8_11 : decode prog_93_method_9_code 11 = .ok (.i2l, 1) := by decide +kernel
theorem d8_12 : decode prog_93_method_9_code 12 = .ok (.lconst 1, 1) := by decide +kernel
theorem d8_13 : decode prog_93_method_9_code 13 = .ok (.ladd, 1) := by decide +kernel
theorem d8_14 : decode prog_93_method_9_code 14 = .ok (.lor, 1) := by decide +kernel
theorem d8_15 : decode prog_93_method_9_code 15 = .ok (.lastore, 1) := by decide +kernel
theorem d8_16 : decode prog_93_method_9_code 16 = .ok (.aload_n 0, 1) := by decide +kernel
theorem d8_17 : decode prog_93_method_9_code 17 = .ok (.dup, 1) := by decide +kernel
theorem d8_18 : decode prog_93_method_9_code 18 = .ok (.getfield 59, 3) := by decide +kernel
theorem d8_21 : decode prog_93_method_9_code 21 = .ok (.iconst 1, 1) := by decide +kernel
theorem d8_22 : decode prog_93_method_9_code 22 = .ok (.iadd, 1) := by decide +kernel
theorem d8_23 : decode prog_93_method_9_code 23 = .ok (.putfield 59, 3) := by decide +kernel
theorem d8_26 : decode prog_93_method_9_code 26 = .ok (.aload_n 0, 1) := by decide +kernel
theorem d8_27 : decode prog_93_method_9_code 27 = .ok (.getfield 59, 3) := by decide +kernel
theorem d8_30 : decode prog_93_method_9_code 30 = .ok (.i2l, 1) := by decide +kernel
theorem d8_31 : decode prog_93_method_9_code 31 = .ok (.ldc2_w 12, 3) := by decide +kernel
theorem d8_34 : decode prog_93_method_9_code 34 = .ok (.lmul, 1) := by decide +kernel
theorem d8_35 : decode prog_93_method_9_code 35 = .ok (.aload_n 0, 1) := by decide +kernel
theorem d8_36 : decode prog_93_method_9_code 36 = .ok (.getfield 16, 3) := by decide +kernel
theorem d8_39 : decode prog_93_method_9_code 39 = .ok (.arraylength, 1) := by decide +kernel
theorem d8_40 : decode prog_93_method_9_code 40 = .ok (.i2l, 1) := by decide +kernel
theorem d8_41 : decode prog_93_method_9_code 41 = .ok (.ldc2_w 14, 3) := by decide +kernel
theorem d8_44 : decode prog_93_method_9_code 44 = .ok (.lmul, 1) := by decide +kernel
theorem d8_45 : decode prog_93_method_9_code 45 = .ok (.lcmp, 1) := by decide +kernel
theorem d8_46 : decode prog_93_method_9_code 46 = .ok (.ifCond .le 7, 3) := by decide +kernel
theorem d8_53 : decode prog_93_method_9_code 53 = .ok (.return_, 1) := by decide +kernel
set_option maxRecDepth 65536 in
set_option maxHeartbeats 40000000 in
theorem own_mfill (l : Launch) (Z : State) (a0 : Array Value) (hw : ∀ d ∈ tables_1, d.before a0 Z = true) (ws : List Jvm.Cond) (ra rb : Addr) (us : List Int64) (vi vh ve vf : Int32)  (h0 : Heap) (n0 : Nat) (Z0 : n0 ≤ h0.size) (g_ra : n0 ≤ ra) (g_rb : n0 ≤ rb) (hab : ra ≠ rb) (E_ra : Exa Z h0 ra "com/example/metrilog/metrilog/Slots") (F_s : Fld Z h0 ra "com/example/metrilog/metrilog/Slots" "slots" "[J" (.ref rb)) (F_h : Fld Z h0 ra "com/example/metrilog/metrilog/Slots" "shift" "I" (.int (28 : Int32))) (F_f : Fld Z h0 ra "com/example/metrilog/metrilog/Slots" "filled" "I" (.int vf)) (A0 : OAJ Z h0 rb us) (hl : us.length = 16) (hi : In16 vi) (hf : ¬ (48 : Int64) < (vf + 1).toInt64 * 4)  :
    MetFree l (⟨"com/example/metrilog/metrilog/Slots", "fill", "(III)V"⟩ : MethodName) (head1 (Jvm.Cond.code (⟨"com/example/metrilog/metrilog/Slots", "fill", "(III)V"⟩ : MethodName) prog_93_method_9_code 4 none :: ws) ({ frames := 0, cells := 0, slots := 0, locals := 0 } : Room)) (fun a U => a = #[(.ref ra), (.int vi), (.int vh), (.int ve)] ∧ Z.Warmed39 U.vm ∧ U.heap = h0) (fun _ _ _ _ _ => True) (fun _ U o U' => ∃ v L, o = .returned v ∧ (Q_own_mfill Z ra rb us vi vh ve vf h0 n0) v U'.heap L ∧ FrameEnd U o U' L ({ frames := 0, cells := 0, slots := 0, locals := 0 } : Room).cells ({ frames := 0, cells := 0, slots := 0, locals := 0 } : Room).slots) := by
  refine MetFree.of_bodySF (plainFor_of_name own_pn1) hisR ?_
  intro p e s m args below meth c s₁ Bd hml0 hP hK
  obtain ⟨rfl, hZ, hh⟩ := hP
  have hx := Bd.exec
  have hby := Bd.bytes
  have hret := Bd.returns
  have hlk : meth.locks = false := Bd.notSynchronized
  have hml : c.maxLocals = 4 := hml0
  have hown : s.vm.findClass "com/example/metrilog/metrilog/Slots" = some m.cls := findClass_of_methodNamed Bd.named
  have hnm := (name_of_methodNamed Bd.named Bd.method).1
  have X0 : Stand p l e ({ frames := 0, cells := 0, slots := 0, locals := 0 } : Room) s m #[(.ref ra), (.int vi), (.int vh), (.int ve)] below meth c s₁ [] 0 0 := Stand.of_body Bd
  have e0 : s₁.heap = h0 := by rw [← hh, Bd.state]; rfl
  have N0 := Fr.nil n0
  have pre0 : ∀ t, Steps p.tables e below (s₁.setTop (mkF m 0 #[.val (.ref ra), .val (.int vi), .val (.int vh), .val (.int ve)] [])) t → Steps p.tables e below (s₁.setTop (entryFrame m #[(.ref ra), (.int vi), (.int vh), (.int ve)] 4)) t := fun t k => castTop (ef_own_mfill m ra vi vh ve) k
  have K0 : Keep h0 h0 [ra, rb] := Keep.refl _ _
  show OGo p e below s (Q_own_mfill Z ra rb us vi vh ve vf h0 n0) ({ frames := 0, cells := 0, slots := 0, locals := 0 } : Room).cells ({ frames := 0, cells := 0, slots := 0, locals := 0 } : Room).slots (s₁.setTop (entryFrame m #[(.ref ra), (.int vi), (.int vh), (.int ve)] 4))
  refine OGo.on pre0 ?_
  show OGo p e below s _ _ _ (s₁.setTop (mkF m 0 #[.val (.ref ra), .val (.int vi), .val (.int vh), .val (.int ve)] []))
  refine OGo.on (fun t k => XS.aloadN X0.here hx rfl (hb hby d8_0) rfl rfl k) ?_
  show OGo p e below s _ _ _ (s₁.setTop (mkF m 1 #[.val (.ref ra), .val (.int vi), .val (.int vh), .val (.int ve)] [(.ref ra)]))
  obtain ⟨T57, X57, e57, st57⟩ := getF X0 hx hZ hown (host := "") (Or.inl (hw _ (List.mem_of_getElem? (i := 13) rfl))) Via.refl e0 F_s (g := (mkF m 1 #[.val (.ref ra), .val (.int vi), .val (.int vh), .val (.int ve)] [(.ref ra)])) rfl rfl (hb hby d8_1)
  refine OGo.on st57 ?_
  show OGo p e below s _ _ _ (T57.setTop (mkF m 4 #[.val (.ref ra), .val (.int vi), .val (.int vh), .val (.int ve)] [(.ref rb)]))
  refine OGo.on (fun t k => XS.iloadN X57.here hx rfl (hb hby d8_4) rfl k) ?_
  show OGo p e below s _ _ _ (T57.setTop (mkF m 5 #[.val (.ref ra), .val (.int vi), .val (.int vh), .val (.int ve)] [(.int vi), (.ref rb)]))
  refine OGo.on (fun t k => XS.iloadN X57.here hx rfl (hb hby d8_5) rfl k) ?_
  show OGo p e below s _ _ _ (T57.setTop (mkF m 6 #[.val (.ref ra), .val (.int vi), .val (.int vh), .val (.int ve)] [(.int vh), (.int vi), (.ref rb)]))
  refine OGo.on (fun t k => XS.i2l X57.here hx rfl (hb hby d8_6) rfl k) ?_
  show OGo p e below s _ _ _ (T57.setTop (mkF m 7 #[.val (.ref ra), .val (.int vi), .val (.int vh), .val (.int ve)] [(.long (vh.toInt64)), (.int vi), (.ref rb)]))
  refine OGo.on (fun t k => XS.bipush X57.here hx rfl (hb hby d8_7) k) ?_
  show OGo p e below s _ _ _ (T57.setTop (mkF m 9 #[.val (.ref ra), .val (.int vi), .val (.int vh), .val (.int ve)] [(.int (32 : Int32)), (.long (vh.toInt64)), (.int vi), (.ref rb)]))
  refine OGo.on (fun t k => XS.lshl X57.here hx rfl (hb hby d8_9) rfl k) ?_
  show OGo p e below s _ _ _ (T57.setTop (mkF m 10 #[.val (.ref ra), .val (.int vi), .val (.int vh), .val (.int ve)] [(.long ((vh.toInt64) <<< ((32 : Int32) &&& 0x3f).toInt64)), (.int vi), (.ref rb)]))
  refine OGo.on (fun t k => XS.iloadN X57.here hx rfl (hb hby d8_10) rfl k) ?_
  show OGo p e below s _ _ _ (T57.setTop (mkF m 11 #[.val (.ref ra), .val (.int vi), .val (.int vh), .val (.int ve)] [(.int ve), (.long ((vh.toInt64) <<< ((32 : Int32) &&& 0x3f).toInt64)), (.int vi), (.ref rb)]))
  refine OGo.on (fun t k => XS.i2l X57.here hx rfl (hb hby d8_11) rfl k) ?_
  show OGo p e below s _ _ _ (T57.setTop (mkF m 12 #[.val (.ref ra), .val (.int vi), .val (.int vh), .val (.int ve)] [(.long (ve.toInt64)), (.long ((vh.toInt64) <<< ((32 : Int32) &&& 0x3f).toInt64)), (.int vi), (.ref rb)]))
  refine OGo.on (fun t k => XS.lconst X57.here hx rfl (hb hby d8_12) k) ?_
  show OGo p e below s _ _ _ (T57.setTop (mkF m 13 #[.val (.ref ra), .val (.int vi), .val (.int vh), .val (.int ve)] [(.long (1 : Int64)), (.long (ve.toInt64)), (.long ((vh.toInt64) <<< ((32 : Int32) &&& 0x3f).toInt64)), (.int vi), (.ref rb)]))
  refine OGo.on (fun t k => XS.ladd X57.here hx rfl (hb hby d8_13) rfl k) ?_
  show OGo p e below s _ _ _ (T57.setTop (mkF m 14 #[.val (.ref ra), .val (.int vi), .val (.int vh), .val (.int ve)] [(.long ((ve.toInt64) + (1 : Int64))), (.long ((vh.toInt64) <<< ((32 : Int32) &&& 0x3f).toInt64)), (.int vi), (.ref rb)]))
  refine OGo.on (fun t k => XS.lor X57.here hx rfl (hb hby d8_14) rfl k) ?_
  show OGo p e below s _ _ _ (T57.setTop (mkF m 15 #[.val (.ref ra), .val (.int vi), .val (.int vh), .val (.int ve)] [(.long (((vh.toInt64) <<< ((32 : Int32) &&& 0x3f).toInt64) ||| ((ve.toInt64) + (1 : Int64)))), (.int vi), (.ref rb)]))
  obtain ⟨T58, h58, X58, e58, W58, A58, st58⟩ := OAJ.stJ X57 hx hZ e57 A0 (j := vi) (x := (((vh.toInt64) <<< ((32 : Int32) &&& 0x3f).toInt64) ||| ((ve.toInt64) + (1 : Int64)))) (in_ok hi).1 (by rw [hl]; exact (in_ok hi).2) (Ls := #[.val (.ref ra), .val (.int vi), .val (.int vh), .val (.int ve)]) (rest := []) (hb hby d8_15)
  have f59 : Exa Z h58 ra "com/example/metrilog/metrilog/Slots" := E_ra.wr W58
  have f60 : Fld Z h58 ra "com/example/metrilog/metrilog/Slots" "slots" "[J" (.ref rb) := F_s.other W58 (Or.inl hab)
  have f61 : Fld Z h58 ra "com/example/metrilog/metrilog/Slots" "shift" "I" (.int (28 : Int32)) := F_h.other W58 (Or.inl hab)
  have f62 : Fld Z h58 ra "com/example/metrilog/metrilog/Slots" "filled" "I" (.int vf) := F_f.other W58 (Or.inl hab)
  have Z63 : n0 ≤ h58.size := Nat.le_trans Z0 (Nat.le_of_eq W58.size.symm)
  have N64 := Fr.snoc X58 N0 g_rb
  have K65 : Keep h0 h58 [ra, rb] := K0.wr W58 (Or.inl (List.mem_of_getElem? (i := 1) rfl))
  have V58 : OAJ Z h58 rb (us.set vi.toNatClampNeg (((vh.toInt64) <<< ((32 : Int32) &&& 0x3f).toInt64) ||| ((ve.toInt64) + (1 : Int64)))) := A58
  refine OGo.on st58 ?_
  show OGo p e below s _ _ _ (T58.setTop (mkF m 16 #[.val (.ref ra), .val (.int vi), .val (.int vh), .val (.int ve)] []))
  refine OGo.on (fun t k => XS.aloadN X58.here hx rfl (hb hby d8_16) rfl rfl k) ?_
  show OGo p e below s _ _ _ (T58.setTop (mkF m 17 #[.val (.ref ra), .val (.int vi), .val (.int vh), .val (.int ve)] [(.ref ra)]))
  refine OGo.on (fun t k => XS.dup X58.here hx rfl (hb hby d8_17) rfl rfl k) ?_
  show OGo p e below s _ _ _ (T58.setTop (mkF m 18 #[.val (.ref ra), .val (.int vi), .val (.int vh), .val (.int ve)] [(.ref ra), (.ref ra)]))
  obtain ⟨T66, X66, e66, st66⟩ := getF X58 hx hZ hown (host := "") (Or.inl (hw _ (List.mem_of_getElem? (i := 44) rfl))) Via.refl e58 f62 (g := (mkF m 18 #[.val (.ref ra), .val (.int vi), .val (.int vh), .val (.int ve)] [(.ref ra), (.ref ra)])) rfl rfl (hb hby d8_18)
  refine OGo.on st66 ?_
  show OGo p e below s _ _ _ (T66.setTop (mkF m 21 #[.val (.ref ra), .val (.int vi), .val (.int vh), .val (.int ve)] [(.int vf), (.ref ra)]))
  refine OGo.on (fun t k => XS.iconst X66.here hx rfl (hb hby d8_21) k) ?_
  show OGo p e below s _ _ _ (T66.setTop (mkF m 22 #[.val (.ref ra), .val (.int vi), .val (.int vh), .val (.int ve)] [(.int (1 : Int32)), (.int vf), (.ref ra)]))
  refine OGo.on (fun t k => XS.iadd X66.here hx rfl (hb hby d8_22) rfl k) ?_
  show OGo p e below s _ _ _ (T66.setTop (mkF m 23 #[.val (.ref ra), .val (.int vi), .val (.int vh), .val (.int ve)] [(.int (vf + (1 : Int32))), (.ref ra)]))
  obtain ⟨T67, h67, X67, e67, W67, st67⟩ := putF X66 hx hZ hown (host := "") (Or.inl (hw _ (List.mem_of_getElem? (i := 44) rfl))) Via.refl e66 f62 f59 (Or.inl (hw _ (List.mem_of_getElem? (i := 45) rfl))) (hw _ (List.mem_of_getElem? (i := 2) rfl)) (ty := .int) (by decide) rfl rfl (g := (mkF m 23 #[.val (.ref ra), .val (.int vi), .val (.int vh), .val (.int ve)] [(.int (vf + (1 : Int32))), (.ref ra)])) rfl rfl (hb hby d8_23)
  have f68 : Exa Z h67 ra "com/example/metrilog/metrilog/Slots" := f59.wr W67
  have f69 : Fld Z h67 ra "com/example/metrilog/metrilog/Slots" "slots" "[J" (.ref rb) := f60.other W67 (Or.inr (slot_ne (Or.inl (hw _ (List.mem_of_getElem? (i := 14) rfl))) (Or.inl (hw _ (List.mem_of_getElem? (i := 45) rfl))) (by decide) (t := (.array .long)) (t' := .int) (by decide) (by decide)))
  have f70 : Fld Z h67 ra "com/example/metrilog/metrilog/Slots" "shift" "I" (.int (28 : Int32)) := f61.other W67 (Or.inr (slot_ne (Or.inl (hw _ (List.mem_of_getElem? (i := 21) rfl))) (Or.inl (hw _ (List.mem_of_getElem? (i := 45) rfl))) (by decide) (t := .int) (t' := .int) (by decide) (by decide)))
  have f71 : OAJ Z h67 rb (us.set vi.toNatClampNeg (((vh.toInt64) <<< ((32 : Int32) &&& 0x3f).toInt64) ||| ((ve.toInt64) + (1 : Int64)))) := V58.other W67 (Ne.symm hab)
  have Z72 : n0 ≤ h67.size := Nat.le_trans Z63 (Nat.le_of_eq W67.size.symm)
  have N73 := Fr.snoc X67 N64 g_ra
  have K74 : Keep h0 h67 [ra, rb] := K65.wr W67 (Or.inl (List.mem_of_getElem? (i := 0) rfl))
  have f75 : Fld Z h67 ra "com/example/metrilog/metrilog/Slots" "filled" "I" (.int (vf + (1 : Int32))) := f62.same W67
  refine OGo.on st67 ?_
  show OGo p e below s _ _ _ (T67.setTop (mkF m 26 #[.val (.ref ra), .val (.int vi), .val (.int vh), .val (.int ve)] []))
  refine OGo.on (fun t k => XS.aloadN X67.here hx rfl (hb hby d8_26) rfl rfl k) ?_
  show OGo p e below s _ _ _ (T67.setTop (mkF m 27 #[.val (.ref ra), .val (.int vi), .val (.int vh), .val (.int ve)] [(.ref ra)]))
  obtain ⟨T76, X76, e76, st76⟩ := getF X67 hx hZ hown (host := "") (Or.inl (hw _ (List.mem_of_getElem? (i := 44) rfl))) Via.refl e67 f75 (g := (mkF m 27 #[.val (.ref ra), .val (.int vi), .val (.int vh), .val (.int ve)] [(.ref ra)])) rfl rfl (hb hby d8_27)
  refine OGo.on st76 ?_
  show OGo p e below s _ _ _ (T76.setTop (mkF m 30 #[.val (.ref ra), .val (.int vi), .val (.int vh), .val (.int ve)] [(.int (vf + (1 : Int32)))]))
  refine OGo.on (fun t k => XS.i2l X76.here hx rfl (hb hby d8_30) rfl k) ?_
  show OGo p e below s _ _ _ (T76.setTop (mkF m 31 #[.val (.ref ra), .val (.int vi), .val (.int vh), .val (.int ve)] [(.long ((vf + (1 : Int32)).toInt64))]))
  refine OGo.on (fun t k => X76.ldc2J hx hown (mvT hZ (hw _ (List.mem_of_getElem? (i := 10) rfl))) (g := (mkF m 31 #[.val (.ref ra), .val (.int vi), .val (.int vh), .val (.int ve)] [(.long ((vf + (1 : Int32)).toInt64))])) rfl (hb hby d8_31) k) ?_
  show OGo p e below s _ _ _ (T76.setTop (mkF m 34 #[.val (.ref ra), .val (.int vi), .val (.int vh), .val (.int ve)] [(.long (4 : Int64)), (.long ((vf + (1 : Int32)).toInt64))]))
  refine OGo.on (fun t k => XS.lmul X76.here hx rfl (hb hby d8_34) rfl k) ?_
  show OGo p e below s _ _ _ (T76.setTop (mkF m 35 #[.val (.ref ra), .val (.int vi), .val (.int vh), .val (.int ve)] [(.long (((vf + (1 : Int32)).toInt64) * (4 : Int64)))]))
  refine OGo.on (fun t k => XS.aloadN X76.here hx rfl (hb hby d8_35) rfl rfl k) ?_
  show OGo p e below s _ _ _ (T76.setTop (mkF m 36 #[.val (.ref ra), .val (.int vi), .val (.int vh), .val (.int ve)] [(.ref ra), (.long (((vf + (1 : Int32)).toInt64) * (4 : Int64)))]))
  obtain ⟨T77, X77, e77, st77⟩ := getF X76 hx hZ hown (host := "") (Or.inl (hw _ (List.mem_of_getElem? (i := 13) rfl))) Via.refl e76 f69 (g := (mkF m 36 #[.val (.ref ra), .val (.int vi), .val (.int vh), .val (.int ve)] [(.ref ra), (.long (((vf + (1 : Int32)).toInt64) * (4 : Int64)))])) rfl rfl (hb hby d8_36)
  refine OGo.on st77 ?_
  show OGo p e below s _ _ _ (T77.setTop (mkF m 39 #[.val (.ref ra), .val (.int vi), .val (.int vh), .val (.int ve)] [(.ref rb), (.long (((vf + (1 : Int32)).toInt64) * (4 : Int64)))]))
  refine OGo.on (fun t k => OAJ.len X77 hx hZ e77 f71 (own_len32 (by rw [List.length_set]; exact hl)) (hb hby d8_39) k) ?_
  show OGo p e below s _ _ _ (T77.setTop (mkF m 40 #[.val (.ref ra), .val (.int vi), .val (.int vh), .val (.int ve)] [(.int (16 : Int32)), (.long (((vf + (1 : Int32)).toInt64) * (4 : Int64)))]))
  refine OGo.on (fun t k => XS.i2l X77.here hx rfl (hb hby d8_40) rfl k) ?_
  show OGo p e below s _ _ _ (T77.setTop (mkF m 41 #[.val (.ref ra), .val (.int vi), .val (.int vh), .val (.int ve)] [(.long (16 : Int64)), (.long (((vf + (1 : Int32)).toInt64) * (4 : Int64)))]))
  refine OGo.on (fun t k => X77.ldc2J hx hown (mvT hZ (hw _ (List.mem_of_getElem? (i := 11) rfl))) (g := (mkF m 41 #[.val (.ref ra), .val (.int vi), .val (.int vh), .val (.int ve)] [(.long (16 : Int64)), (.long (((vf + (1 : Int32)).toInt64) * (4 : Int64)))])) rfl (hb hby d8_41) k) ?_
  show OGo p e below s _ _ _ (T77.setTop (mkF m 44 #[.val (.ref ra), .val (.int vi), .val (.int vh), .val (.int ve)] [(.long (3 : Int64)), (.long (16 : Int64)), (.long (((vf + (1 : Int32)).toInt64) * (4 : Int64)))]))
  refine OGo.on (fun t k => XS.lmul X77.here hx rfl (hb hby d8_44) rfl k) ?_
  show OGo p e below s _ _ _ (T77.setTop (mkF m 45 #[.val (.ref ra), .val (.int vi), .val (.int vh), .val (.int ve)] [(.long (48 : Int64)), (.long (((vf + (1 : Int32)).toInt64) * (4 : Int64)))]))
  refine OGo.on (fun t k => XS.lcmp X77.here hx rfl (hb hby d8_45) rfl k) ?_
  show OGo p e below s _ _ _ (T77.setTop (mkF m 46 #[.val (.ref ra), .val (.int vi), .val (.int vh), .val (.int ve)] [(.int (lcmpW (((vf + (1 : Int32)).toInt64) * (4 : Int64)) (48 : Int64)))]))
  refine OGo.on (fun t k => XS.ifYes X77.here hx rfl (pc0 := 46) (pc' := 53) rfl (hb hby d8_46) rfl (lc_flt hf).2.2.2 (by decide) (by decide) k) ?_
  show OGo p e below s _ _ _ (T77.setTop (mkF m 53 #[.val (.ref ra), .val (.int vi), .val (.int vh), .val (.int ve)] []))
  exact OGo.ret0 X77 hx hret hlk (hb hby d8_53) ⟨rfl, N73, by rw [e77]; exact K74, by rw [e77]; exact f69, by rw [e77]; exact f70, by rw [e77]; exact f75, by rw [e77]; exact f71⟩ (by decide) (by decide)
theorem own_pn2 : plainName "com/example/metrilog/metrilog/SlotsReplacePinLaw" = true := by first | (simp [plainName, overriddenIn]; done) | decide +kernel
theorem own_pd3 : parseMethodDescriptor "(I)V" = some ⟨[.int], none⟩ := by decide +kernel
theorem own_pd4 : parseMethodDescriptor "(III)V" = some ⟨[.int, .int, .int], none⟩ := by decide +kernel
theorem own_pd5 : parseMethodDescriptor "(II)V" = some ⟨[.int, .int], none⟩ := by decide +kernel
theorem ef_own_law (m : MethodId) (x0 : Int32) (x1 : Int32) (x2 : Int32) (x3 : Int32) (x4 : Int32) (x5 : Int32) : entryFrame m #[(.int x0), (.int x1), (.int x2), (.int x3), (.int x4), (.int x5)] maxLocals = mkF m 0 #[.val (.int x0), .val (.int x1), .val (.int x2), .val (.int x3), .val (.int x4), .val (.int x5), .unset, .unset, .unset, .unset, .unset, .unset, .unset, .unset, .unset, .unset, .unset, .unset] [] := by first | (simp [entryFrame, mkF, argsToLocals, Value.category, maxLocals]; done) | rfl
set_option maxRecDepth 65536 in
set_option maxHeartbeats 40000000 in
theorem own_law (l : Launch) (Z : State) (a0 : Array Value) (hw : ∀ d ∈ tables_1, d.before a0 Z = true) (ws : List Jvm.Cond) (vh1 vh2 ve1 ve2 ve3 vw : Int32) (h0 : Heap) (n0 : Nat) (Z0 : n0 ≤ h0.size)  :
    MetFree l x (head1 (Jvm.Cond.code x code maxLocals ret :: ws) room_1) (fun a U => a = #[(.int vh1), (.int vh2), (.int ve1), (.int ve2), (.int ve3), (.int vw)] ∧ Z.Warmed39 U.vm ∧ U.heap = h0) (fun _ _ _ _ _ => True) (fun _ U o U' => ∃ v L, o = .returned v ∧ (fun v h L => v = some (.int 1) ∧ Fr n0 L) v U'.heap L ∧ FrameEnd U o U' L 16 128) := by
  refine MetFree.of_bodySF (plainFor_of_name own_pn2) hisR ?_
  intro p e s m args below meth c s₁ Bd hml0 hP hK
  obtain ⟨rfl, hZ, hh⟩ := hP
  have hx := Bd.exec
  have hby := Bd.bytes
  have hret := Bd.returns
  have hlk : meth.locks = false := Bd.notSynchronized
  have hml : c.maxLocals = 18 := hml0
  have hown : s.vm.findClass "com/example/metrilog/metrilog/SlotsReplacePinLaw" = some m.cls := findClass_of_methodNamed Bd.named
  have hnm := (name_of_methodNamed Bd.named Bd.method).1
  have X0 : Stand p l e room_1 s m #[(.int vh1), (.int vh2), (.int ve1), (.int ve2), (.int ve3), (.int vw)] below meth c s₁ [] 0 0 := Stand.of_body Bd
  have e0 : s₁.heap = h0 := by rw [← hh, Bd.state]; rfl
  have N0 := Fr.nil n0
  have pre0 : ∀ t, Steps p.tables e below (s₁.setTop (mkF m 0 #[.val (.int vh1), .val (.int vh2), .val (.int ve1), .val (.int ve2), .val (.int ve3), .val (.int vw), .unset, .unset, .unset, .unset, .unset, .unset, .unset, .unset, .unset, .unset, .unset, .unset] [])) t → Steps p.tables e below (s₁.setTop (entryFrame m #[(.int vh1), (.int vh2), (.int ve1), (.int ve2), (.int ve3), (.int vw)] maxLocals)) t := fun t k => castTop (ef_own_law m vh1 vh2 ve1 ve2 ve3 vw) k
  show OGo p e below s (fun v h L => v = some (.int 1) ∧ Fr n0 L) 16 128 (s₁.setTop (entryFrame m #[(.int vh1), (.int vh2), (.int ve1), (.int ve2), (.int ve3), (.int vw)] maxLocals))
  refine OGo.on pre0 ?_
  show OGo p e below s _ _ _ (s₁.setTop (mkF m 0 #[.val (.int vh1), .val (.int vh2), .val (.int ve1), .val (.int ve2), .val (.int ve3), .val (.int vw), .unset, .unset, .unset, .unset, .unset, .unset, .unset, .unset, .unset, .unset, .unset, .unset] []))
  refine OGo.on (fun t k => XS.iloadN X0.here hx rfl (hb hby at_0) rfl k) ?_
  show OGo p e below s _ _ _ (s₁.setTop (mkF m 1 #[.val (.int vh1), .val (.int vh2), .val (.int ve1), .val (.int ve2), .val (.int ve3), .val (.int vw), .unset, .unset, .unset, .unset, .unset, .unset, .unset, .unset, .unset, .unset, .unset, .unset] [(.int ve1)]))
  refine OGo.on (fun t k => X0.ldcI hx hown (mvT hZ (hw _ (List.mem_of_getElem? (i := 0) rfl))) (g := (mkF m 1 #[.val (.int vh1), .val (.int vh2), .val (.int ve1), .val (.int ve2), .val (.int ve3), .val (.int vw), .unset, .unset, .unset, .unset, .unset, .unset, .unset, .unset, .unset, .unset, .unset, .unset] [(.int ve1)])) rfl (hb hby at_1) k) ?_
  show OGo p e below s _ _ _ (s₁.setTop (mkF m 3 #[.val (.int vh1), .val (.int vh2), .val (.int ve1), .val (.int ve2), .val (.int ve3), .val (.int vw), .unset, .unset, .unset, .unset, .unset, .unset, .unset, .unset, .unset, .unset, .unset, .unset] [(.int (2147483647 : Int32)), (.int ve1)]))
  refine OGo.on (fun t k => XS.iand X0.here hx rfl (hb hby at_3) rfl k) ?_
  show OGo p e below s _ _ _ (s₁.setTop (mkF m 4 #[.val (.int vh1), .val (.int vh2), .val (.int ve1), .val (.int ve2), .val (.int ve3), .val (.int vw), .unset, .unset, .unset, .unset, .unset, .unset, .unset, .unset, .unset, .unset, .unset, .unset] [(.int (ve1 &&& (2147483647 : Int32)))]))
  refine OGo.on (fun t k => XS.istore X0.here hx rfl (hb hby at_4) rfl (l' := #[.val (.int vh1), .val (.int vh2), .val (.int ve1), .val (.int ve2), .val (.int ve3), .val (.int vw), .val (.int (ve1 &&& (2147483647 : Int32))), .unset, .unset, .unset, .unset, .unset, .unset, .unset, .unset, .unset, .unset, .unset]) rfl k) ?_
  show OGo p e below s _ _ _ (s₁.setTop (mkF m 6 #[.val (.int vh1), .val (.int vh2), .val (.int ve1), .val (.int ve2), .val (.int ve3), .val (.int vw), .val (.int (ve1 &&& (2147483647 : Int32))), .unset, .unset, .unset, .unset, .unset, .unset, .unset, .unset, .unset, .unset, .unset] []))
  generalize hv_va : (ve1 &&& (2147483647 : Int32)) = va
  show OGo p e below s _ _ _ (s₁.setTop (mkF m 6 #[.val (.int vh1), .val (.int vh2), .val (.int ve1), .val (.int ve2), .val (.int ve3), .val (.int vw), .val (.int va), .unset, .unset, .unset, .unset, .unset, .unset, .unset, .unset, .unset, .unset, .unset] []))
  refine OGo.on (fun t k => XS.iloadN X0.here hx rfl (hb hby at_6) rfl k) ?_
  show OGo p e below s _ _ _ (s₁.setTop (mkF m 7 #[.val (.int vh1), .val (.int vh2), .val (.int ve1), .val (.int ve2), .val (.int ve3), .val (.int vw), .val (.int va), .unset, .unset, .unset, .unset, .unset, .unset, .unset, .unset, .unset, .unset, .unset] [(.int ve2)]))
  refine OGo.on (fun t k => X0.ldcI hx hown (mvT hZ (hw _ (List.mem_of_getElem? (i := 0) rfl))) (g := (mkF m 7 #[.val (.int vh1), .val (.int vh2), .val (.int ve1), .val (.int ve2), .val (.int ve3), .val (.int vw), .val (.int va), .unset, .unset, .unset, .unset, .unset, .unset, .unset, .unset, .unset, .unset, .unset] [(.int ve2)])) rfl (hb hby at_7) k) ?_
  show OGo p e below s _ _ _ (s₁.setTop (mkF m 9 #[.val (.int vh1), .val (.int vh2), .val (.int ve1), .val (.int ve2), .val (.int ve3), .val (.int vw), .val (.int va), .unset, .unset, .unset, .unset, .unset, .unset, .unset, .unset, .unset, .unset, .unset] [(.int (2147483647 : Int32)), (.int ve2)]))
  refine OGo.on (fun t k => XS.iand X0.here hx rfl (hb hby at_9) rfl k) ?_
  show OGo p e below s _ _ _ (s₁.setTop (mkF m 10 #[.val (.int vh1), .val (.int vh2), .val (.int ve1), .val (.int ve2), .val (.int ve3), .val (.int vw), .val (.int va), .unset, .unset, .unset, .unset, .unset, .unset, .unset, .unset, .unset, .unset, .unset] [(.int (ve2 &&& (2147483647 : Int32)))]))
  refine OGo.on (fun t k => XS.istore X0.here hx rfl (hb hby at_10) rfl (l' := #[.val (.int vh1), .val (.int vh2), .val (.int ve1), .val (.int ve2), .val (.int ve3), .val (.int vw), .val (.int va), .val (.int (ve2 &&& (2147483647 : Int32))), .unset, .unset, .unset, .unset, .unset, .unset, .unset, .unset, .unset, .unset]) rfl k) ?_
  show OGo p e below s _ _ _ (s₁.setTop (mkF m 12 #[.val (.int vh1), .val (.int vh2), .val (.int ve1), .val (.int ve2), .val (.int ve3), .val (.int vw), .val (.int va), .val (.int (ve2 &&& (2147483647 : Int32))), .unset, .unset, .unset, .unset, .unset, .unset, .unset, .unset, .unset, .unset] []))
  generalize hv_vb : (ve2 &&& (2147483647 : Int32)) = vb
  show OGo p e below s _ _ _ (s₁.setTop (mkF m 12 #[.val (.int vh1), .val (.int vh2), .val (.int ve1), .val (.int ve2), .val (.int ve3), .val (.int vw), .val (.int va), .val (.int vb), .unset, .unset, .unset, .unset, .unset, .unset, .unset, .unset, .unset, .unset] []))
  refine OGo.on (fun t k => XS.iload X0.here hx rfl (hb hby at_12) rfl k) ?_
  show OGo p e below s _ _ _ (s₁.setTop (mkF m 14 #[.val (.int vh1), .val (.int vh2), .val (.int ve1), .val (.int ve2), .val (.int ve3), .val (.int vw), .val (.int va), .val (.int vb), .unset, .unset, .unset, .unset, .unset, .unset, .unset, .unset, .unset, .unset] [(.int ve3)]))
  refine OGo.on (fun t k => X0.ldcI hx hown (mvT hZ (hw _ (List.mem_of_getElem? (i := 0) rfl))) (g := (mkF m 14 #[.val (.int vh1), .val (.int vh2), .val (.int ve1), .val (.int ve2), .val (.int ve3), .val (.int vw), .val (.int va), .val (.int vb), .unset, .unset, .unset, .unset, .unset, .unset, .unset, .unset, .unset, .unset] [(.int ve3)])) rfl (hb hby at_14) k) ?_
  show OGo p e below s _ _ _ (s₁.setTop (mkF m 16 #[.val (.int vh1), .val (.int vh2), .val (.int ve1), .val (.int ve2), .val (.int ve3), .val (.int vw), .val (.int va), .val (.int vb), .unset, .unset, .unset, .unset, .unset, .unset, .unset, .unset, .unset, .unset] [(.int (2147483647 : Int32)), (.int ve3)]))
  refine OGo.on (fun t k => XS.iand X0.here hx rfl (hb hby at_16) rfl k) ?_
  show OGo p e below s _ _ _ (s₁.setTop (mkF m 17 #[.val (.int vh1), .val (.int vh2), .val (.int ve1), .val (.int ve2), .val (.int ve3), .val (.int vw), .val (.int va), .val (.int vb), .unset, .unset, .unset, .unset, .unset, .unset, .unset, .unset, .unset, .unset] [(.int (ve3 &&& (2147483647 : Int32)))]))
  refine OGo.on (fun t k => XS.istore X0.here hx rfl (hb hby at_17) rfl (l' := #[.val (.int vh1), .val (.int vh2), .val (.int ve1), .val (.int ve2), .val (.int ve3), .val (.int vw), .val (.int va), .val (.int vb), .val (.int (ve3 &&& (2147483647 : Int32))), .unset, .unset, .unset, .unset, .unset, .unset, .unset, .unset, .unset]) rfl k) ?_
  show OGo p e below s _ _ _ (s₁.setTop (mkF m 19 #[.val (.int vh1), .val (.int vh2), .val (.int ve1), .val (.int ve2), .val (.int ve3), .val (.int vw), .val (.int va), .val (.int vb), .val (.int (ve3 &&& (2147483647 : Int32))), .unset, .unset, .unset, .unset, .unset, .unset, .unset, .unset, .unset] []))
  generalize hv_vc : (ve3 &&& (2147483647 : Int32)) = vc
  show OGo p e below s _ _ _ (s₁.setTop (mkF m 19 #[.val (.int vh1), .val (.int vh2), .val (.int ve1), .val (.int ve2), .val (.int ve3), .val (.int vw), .val (.int va), .val (.int vb), .val (.int vc), .unset, .unset, .unset, .unset, .unset, .unset, .unset, .unset, .unset] []))
  have hva : 0 ≤ va.toInt := by rw [← hv_va]; exact own_mask _
  have hvb : 0 ≤ vb.toInt := by rw [← hv_vb]; exact own_mask _
  have hvc : 0 ≤ vc.toInt := by rw [← hv_vc]; exact own_mask _
  obtain ⟨T78, h78, X78, e78, E78, A78, D78, -, st78⟩ := newO X0 hx hZ hown (hw _ (List.mem_of_getElem? (i := 1) rfl)) (hw _ (List.mem_of_getElem? (i := 2) rfl)) (hw _ (List.mem_of_getElem? (i := 3) rfl)) e0 (g := (mkF m 19 #[.val (.int vh1), .val (.int vh2), .val (.int ve1), .val (.int ve2), .val (.int ve3), .val (.int vw), .val (.int va), .val (.int vb), .val (.int vc), .unset, .unset, .unset, .unset, .unset, .unset, .unset, .unset, .unset] [])) rfl (hb hby at_19) (by decide) (by decide)
  obtain ⟨b78, g78⟩ : ∃ z, z = h0.size := ⟨_, rfl⟩
  rw [← g78] at A78 D78 st78
  have ge79 : n0 ≤ b78 := Nat.le_trans Z0 (Nat.le_of_eq g78.symm)
  have Z80 : n0 ≤ h78.size := Nat.le_trans Z0 E78.1
  have f81 : Fld Z h78 b78 "com/example/metrilog/metrilog/Slots" "slots" "[J" .null := D78 (Or.inl (hw _ (List.mem_of_getElem? (i := 14) rfl))) (ty := (.array .long)) (by decide)
  have f82 : Fld Z h78 b78 "com/example/metrilog/metrilog/Slots" "shift" "I" (.int (0 : Int32)) := D78 (Or.inl (hw _ (List.mem_of_getElem? (i := 21) rfl))) (ty := .int) (by decide)
  have f83 : Fld Z h78 b78 "com/example/metrilog/metrilog/Slots" "filled" "I" (.int (0 : Int32)) := D78 (Or.inl (hw _ (List.mem_of_getElem? (i := 45) rfl))) (ty := .int) (by decide)
  refine OGo.on st78 ?_
  show OGo p e below s _ _ _ (T78.setTop (mkF m 22 #[.val (.int vh1), .val (.int vh2), .val (.int ve1), .val (.int ve2), .val (.int ve3), .val (.int vw), .val (.int va), .val (.int vb), .val (.int vc), .unset, .unset, .unset, .unset, .unset, .unset, .unset, .unset, .unset] [(.ref b78)]))
  refine OGo.on (fun t k => XS.dup X78.here hx rfl (hb hby at_22) rfl rfl k) ?_
  show OGo p e below s _ _ _ (T78.setTop (mkF m 23 #[.val (.int vh1), .val (.int vh2), .val (.int ve1), .val (.int ve2), .val (.int ve3), .val (.int vw), .val (.int va), .val (.int vb), .val (.int vc), .unset, .unset, .unset, .unset, .unset, .unset, .unset, .unset, .unset] [(.ref b78), (.ref b78)]))
  refine OGo.on (fun t k => XS.iconst X78.here hx rfl (hb hby at_23) k) ?_
  show OGo p e below s _ _ _ (T78.setTop (mkF m 24 #[.val (.int vh1), .val (.int vh2), .val (.int ve1), .val (.int ve2), .val (.int ve3), .val (.int vw), .val (.int va), .val (.int vb), .val (.int vc), .unset, .unset, .unset, .unset, .unset, .unset, .unset, .unset, .unset] [(.int (0 : Int32)), (.ref b78), (.ref b78)]))
  obtain ⟨_, _, ⟨T84, L84, k84, n84⟩, -, X84, ⟨Lc84, hQ84, l84, y84, z84⟩, st84⟩ := X78.specialBack hx (y := (⟨"com/example/metrilog/metrilog/Slots", "<init>", "(I)V"⟩ : MethodName)) rfl hown (mvT hZ (hw _ (List.mem_of_getElem? (i := 4) rfl))) (mvT hZ (hw _ (List.mem_of_getElem? (i := 5) rfl))) (mvT hZ (hw _ (List.mem_of_getElem? (i := 6) rfl))) (by decide) (backOf (W := 1) (own_minit l Z a0 hw [] b78 h78 n0 Z80 ge79 A78 f81 f82 f83) hZ (hw _ (List.mem_of_getElem? (i := 6) rfl)) (hw _ (List.mem_of_getElem? (i := 3) rfl)) (by decide) (by decide)) (g := (mkF m 24 #[.val (.int vh1), .val (.int vh2), .val (.int ve1), .val (.int ve2), .val (.int ve3), .val (.int vw), .val (.int va), .val (.int vb), .val (.int vc), .unset, .unset, .unset, .unset, .unset, .unset, .unset, .unset, .unset] [(.int (0 : Int32)), (.ref b78), (.ref b78)])) rfl (by rw [hml]; rfl) (Steps.refl _) (a := b78) (argsL := [(.int (0 : Int32))]) (rest := [(.ref b78)]) (lenOf own_pd3 rfl) rfl (by show 2 * 0 + _ ≤ _; exact Nat.le_of_eq rfl) (hb hby at_24) (fun _ _ => ⟨rfl, e78, (by decide : 1 + 1 ≤ _), (by decide : 3 + 16 ≤ _)⟩)
  dsimp only [Pt.U, Pt.locs, Pt.cells, Pt.slots] at X84 l84 y84 z84 st84 hQ84
  subst l84 y84 z84
  obtain ⟨rfl, N84q, K84, rb, g_rb, hab, Fs84, Fh84, Ff84, Ar84⟩ := hQ84
  have N84 := Fr.app N0 N84q
  have f85 : Exa Z T84.heap b78 "com/example/metrilog/metrilog/Slots" := A78.keep K84
  have Z86 : n0 ≤ T84.heap.size := Nat.le_trans Z80 K84.1
  refine OGo.on (fun t k => st84.trans k) ?_
  show OGo p e below s _ _ _ (T84.setTop (mkF m 27 #[.val (.int vh1), .val (.int vh2), .val (.int ve1), .val (.int ve2), .val (.int ve3), .val (.int vw), .val (.int va), .val (.int vb), .val (.int vc), .unset, .unset, .unset, .unset, .unset, .unset, .unset, .unset, .unset] [(.ref b78)]))
  refine OGo.on (fun t k => XS.astore X84.here hx rfl (hb hby at_27) rfl rfl (l' := #[.val (.int vh1), .val (.int vh2), .val (.int ve1), .val (.int ve2), .val (.int ve3), .val (.int vw), .val (.int va), .val (.int vb), .val (.int vc), .val (.ref b78), .unset, .unset, .unset, .unset, .unset, .unset, .unset, .unset]) rfl k) ?_
  show OGo p e below s _ _ _ (T84.setTop (mkF m 29 #[.val (.int vh1), .val (.int vh2), .val (.int ve1), .val (.int ve2), .val (.int ve3), .val (.int vw), .val (.int va), .val (.int vb), .val (.int vc), .val (.ref b78), .unset, .unset, .unset, .unset, .unset, .unset, .unset, .unset] []))
  refine OGo.on (fun t k => XS.aload X84.here hx rfl (hb hby at_29) rfl rfl k) ?_
  show OGo p e below s _ _ _ (T84.setTop (mkF m 31 #[.val (.int vh1), .val (.int vh2), .val (.int ve1), .val (.int ve2), .val (.int ve3), .val (.int vw), .val (.int va), .val (.int vb), .val (.int vc), .val (.ref b78), .unset, .unset, .unset, .unset, .unset, .unset, .unset, .unset] [(.ref b78)]))
  refine OGo.on (fun t k => XS.iloadN X84.here hx rfl (hb hby at_31) rfl k) ?_
  show OGo p e below s _ _ _ (T84.setTop (mkF m 32 #[.val (.int vh1), .val (.int vh2), .val (.int ve1), .val (.int ve2), .val (.int ve3), .val (.int vw), .val (.int va), .val (.int vb), .val (.int vc), .val (.ref b78), .unset, .unset, .unset, .unset, .unset, .unset, .unset, .unset] [(.int vh1), (.ref b78)]))
  obtain ⟨cq87, kq87, q87a, q87b, q87c⟩ := isOf hZ rfl f85
  obtain ⟨_, _, ⟨T87, L87, k87, n87⟩, -, X87, ⟨Lc87, hQ87, l87, y87, z87⟩, st87⟩ := X84.virtualBack hx (y := (⟨"com/example/metrilog/metrilog/Slots", "first", "(I)I"⟩ : MethodName)) (z := (⟨"com/example/metrilog/metrilog/Slots", "first", "(I)I"⟩ : MethodName)) hown (mvT hZ (hw _ (List.mem_of_getElem? (i := 22) rfl))) (mvT hZ (hw _ (List.mem_of_getElem? (i := 23) rfl))) (notFace_of_selects (args := #[]) (mvT hZ (hw _ (List.mem_of_getElem? (i := 25) rfl)))) (mvT hZ (hw _ (List.mem_of_getElem? (i := 25) rfl))) (mvT hZ (hw _ (List.mem_of_getElem? (i := 24) rfl))) (by decide) (backOf (W := 0) (own_first0 l Z a0 hw [] b78 rb [(0 : Int64), 0, 0, 0, 0, 0, 0, 0, 0, 0, 0, 0, 0, 0, 0, 0] vh1 (0 : Int64) T84.heap n0 Z86 f85 Fs84 Fh84 Ar84 rfl (own_zero (in_home vh1)) (fun q => absurd rfl q)) hZ (hw _ (List.mem_of_getElem? (i := 26) rfl)) (hw _ (List.mem_of_getElem? (i := 3) rfl)) (by decide) (by decide)) q87a q87c (g := (mkF m 32 #[.val (.int vh1), .val (.int vh2), .val (.int ve1), .val (.int ve2), .val (.int ve3), .val (.int vw), .val (.int va), .val (.int vb), .val (.int vc), .val (.ref b78), .unset, .unset, .unset, .unset, .unset, .unset, .unset, .unset] [(.int vh1), (.ref b78)])) rfl (by rw [hml]; rfl) (Steps.refl _) (argsL := [(.int vh1)]) (rest := []) (lenOf own_pd1 rfl) rfl (by show 2 * 0 + _ ≤ _; exact Nat.le_of_eq rfl) (hb hby at_32) (fun _ _ => ⟨rfl, rfl, (by decide : 2 + 0 ≤ _), (by decide : 19 + 0 ≤ _)⟩)
  dsimp only [Pt.U, Pt.locs, Pt.cells, Pt.slots] at X87 l87 y87 z87 st87 hQ87
  subst l87 y87 z87
  obtain ⟨rfl, N87q, e87⟩ := hQ87
  have N87 := Fr.app N84 N87q
  refine OGo.on (fun t k => st87.trans k) ?_
  show OGo p e below s _ _ _ (T87.setTop (mkF m 35 #[.val (.int vh1), .val (.int vh2), .val (.int ve1), .val (.int ve2), .val (.int ve3), .val (.int vw), .val (.int va), .val (.int vb), .val (.int vc), .val (.ref b78), .unset, .unset, .unset, .unset, .unset, .unset, .unset, .unset] [(.int (own_home vh1))]))
  refine OGo.on (fun t k => XS.istore X87.here hx rfl (hb hby at_35) rfl (l' := #[.val (.int vh1), .val (.int vh2), .val (.int ve1), .val (.int ve2), .val (.int ve3), .val (.int vw), .val (.int va), .val (.int vb), .val (.int vc), .val (.ref b78), .val (.int (own_home vh1)), .unset, .unset, .unset, .unset, .unset, .unset, .unset]) rfl k) ?_
  show OGo p e below s _ _ _ (T87.setTop (mkF m 37 #[.val (.int vh1), .val (.int vh2), .val (.int ve1), .val (.int ve2), .val (.int ve3), .val (.int vw), .val (.int va), .val (.int vb), .val (.int vc), .val (.ref b78), .val (.int (own_home vh1)), .unset, .unset, .unset, .unset, .unset, .unset, .unset] []))
  refine OGo.on (fun t k => XS.aload X87.here hx rfl (hb hby at_37) rfl rfl k) ?_
  show OGo p e below s _ _ _ (T87.setTop (mkF m 39 #[.val (.int vh1), .val (.int vh2), .val (.int ve1), .val (.int ve2), .val (.int ve3), .val (.int vw), .val (.int va), .val (.int vb), .val (.int vc), .val (.ref b78), .val (.int (own_home vh1)), .unset, .unset, .unset, .unset, .unset, .unset, .unset] [(.ref b78)]))
  refine OGo.on (fun t k => XS.iload X87.here hx rfl (hb hby at_39) rfl k) ?_
  show OGo p e below s _ _ _ (T87.setTop (mkF m 41 #[.val (.int vh1), .val (.int vh2), .val (.int ve1), .val (.int ve2), .val (.int ve3), .val (.int vw), .val (.int va), .val (.int vb), .val (.int vc), .val (.ref b78), .val (.int (own_home vh1)), .unset, .unset, .unset, .unset, .unset, .unset, .unset] [(.int (own_home vh1)), (.ref b78)]))
  refine OGo.on (fun t k => XS.iloadN X87.here hx rfl (hb hby at_41) rfl k) ?_
  show OGo p e below s _ _ _ (T87.setTop (mkF m 42 #[.val (.int vh1), .val (.int vh2), .val (.int ve1), .val (.int ve2), .val (.int ve3), .val (.int vw), .val (.int va), .val (.int vb), .val (.int vc), .val (.ref b78), .val (.int (own_home vh1)), .unset, .unset, .unset, .unset, .unset, .unset, .unset] [(.int vh1), (.int (own_home vh1)), (.ref b78)]))
  refine OGo.on (fun t k => XS.iload X87.here hx rfl (hb hby at_42) rfl k) ?_
  show OGo p e below s _ _ _ (T87.setTop (mkF m 44 #[.val (.int vh1), .val (.int vh2), .val (.int ve1), .val (.int ve2), .val (.int ve3), .val (.int vw), .val (.int va), .val (.int vb), .val (.int vc), .val (.ref b78), .val (.int (own_home vh1)), .unset, .unset, .unset, .unset, .unset, .unset, .unset] [(.int va), (.int vh1), (.int (own_home vh1)), (.ref b78)]))
  obtain ⟨cq88, kq88, q88a, q88b, q88c⟩ := isOf hZ e87 f85
  obtain ⟨_, _, ⟨T88, L88, k88, n88⟩, -, X88, ⟨Lc88, hQ88, l88, y88, z88⟩, st88⟩ := X87.virtualBack hx (y := (⟨"com/example/metrilog/metrilog/Slots", "fill", "(III)V"⟩ : MethodName)) (z := (⟨"com/example/metrilog/metrilog/Slots", "fill", "(III)V"⟩ : MethodName)) hown (mvT hZ (hw _ (List.mem_of_getElem? (i := 39) rfl))) (mvT hZ (hw _ (List.mem_of_getElem? (i := 40) rfl))) (notFace_of_selects (args := #[]) (mvT hZ (hw _ (List.mem_of_getElem? (i := 42) rfl)))) (mvT hZ (hw _ (List.mem_of_getElem? (i := 42) rfl))) (mvT hZ (hw _ (List.mem_of_getElem? (i := 41) rfl))) (by decide) (backOf (W := 0) (own_mfill l Z a0 hw [] b78 rb [(0 : Int64), 0, 0, 0, 0, 0, 0, 0, 0, 0, 0, 0, 0, 0, 0, 0] (own_home vh1) vh1 va (0 : Int32) T84.heap n0 Z86 ge79 g_rb hab f85 Fs84 Fh84 Ff84 Ar84 rfl (in_home vh1) (by decide)) hZ (hw _ (List.mem_of_getElem? (i := 43) rfl)) (hw _ (List.mem_of_getElem? (i := 3) rfl)) (by decide) (by decide)) q88a q88c (g := (mkF m 44 #[.val (.int vh1), .val (.int vh2), .val (.int ve1), .val (.int ve2), .val (.int ve3), .val (.int vw), .val (.int va), .val (.int vb), .val (.int vc), .val (.ref b78), .val (.int (own_home vh1)), .unset, .unset, .unset, .unset, .unset, .unset, .unset] [(.int va), (.int vh1), (.int (own_home vh1)), (.ref b78)])) rfl (by rw [hml]; rfl) (Steps.refl _) (argsL := [(.int (own_home vh1)), (.int vh1), (.int va)]) (rest := []) (lenOf own_pd4 rfl) rfl (by show 2 * 0 + _ ≤ _; exact Nat.le_of_eq rfl) (hb hby at_44) (fun _ _ => ⟨rfl, e87, (by decide : 2 + 0 ≤ _), (by decide : 19 + 0 ≤ _)⟩)
  dsimp only [Pt.U, Pt.locs, Pt.cells, Pt.slots] at X88 l88 y88 z88 st88 hQ88
  subst l88 y88 z88
  obtain ⟨rfl, N88q, K88, Fs88, Fh88, Ff88, Ar88⟩ := hQ88
  have N88 := Fr.app N87 N88q
  have Fg88 : Fld Z T88.heap b78 "com/example/metrilog/metrilog/Slots" "filled" "I" (.int (1 : Int32)) := Ff88
  have f89 : Exa Z T88.heap b78 "com/example/metrilog/metrilog/Slots" := f85.keep K88
  have Z90 : n0 ≤ T88.heap.size := Nat.le_trans Z86 K88.1
  refine OGo.on (fun t k => st88.trans k) ?_
  show OGo p e below s _ _ _ (T88.setTop (mkF m 47 #[.val (.int vh1), .val (.int vh2), .val (.int ve1), .val (.int ve2), .val (.int ve3), .val (.int vw), .val (.int va), .val (.int vb), .val (.int vc), .val (.ref b78), .val (.int (own_home vh1)), .unset, .unset, .unset, .unset, .unset, .unset, .unset] []))
  refine OGo.on (fun t k => XS.iloadN X88.here hx rfl (hb hby at_47) rfl k) ?_
  show OGo p e below s _ _ _ (T88.setTop (mkF m 48 #[.val (.int vh1), .val (.int vh2), .val (.int ve1), .val (.int ve2), .val (.int ve3), .val (.int vw), .val (.int va), .val (.int vb), .val (.int vc), .val (.ref b78), .val (.int (own_home vh1)), .unset, .unset, .unset, .unset, .unset, .unset, .unset] [(.int vh1)]))
  refine OGo.on (fun t k => XS.iloadN X88.here hx rfl (hb hby at_48) rfl k) ?_
  show OGo p e below s _ _ _ (T88.setTop (mkF m 49 #[.val (.int vh1), .val (.int vh2), .val (.int ve1), .val (.int ve2), .val (.int ve3), .val (.int vw), .val (.int va), .val (.int vb), .val (.int vc), .val (.ref b78), .val (.int (own_home vh1)), .unset, .unset, .unset, .unset, .unset, .unset, .unset] [(.int vh2), (.int vh1)]))
  by_cases hc91 : vh1 = vh2
  · refine OGo.on (fun t k => XS.icmpNo X88.here hx rfl (hb hby at_49) rfl (teq hc91).2 k) ?_
    show OGo p e below s _ _ _ (T88.setTop (mkF m 52 #[.val (.int vh1), .val (.int vh2), .val (.int ve1), .val (.int ve2), .val (.int ve3), .val (.int vw), .val (.int va), .val (.int vb), .val (.int vc), .val (.ref b78), .val (.int (own_home vh1)), .unset, .unset, .unset, .unset, .unset, .unset, .unset] []))
    subst hc91
    show OGo p e below s _ _ _ (T88.setTop (mkF m 52 #[.val (.int vh1), .val (.int vh1), .val (.int ve1), .val (.int ve2), .val (.int ve3), .val (.int vw), .val (.int va), .val (.int vb), .val (.int vc), .val (.ref b78), .val (.int (own_home vh1)), .unset, .unset, .unset, .unset, .unset, .unset, .unset] []))
    refine OGo.on (fun t k => XS.aload X88.here hx rfl (hb hby at_52) rfl rfl k) ?_
    show OGo p e below s _ _ _ (T88.setTop (mkF m 54 #[.val (.int vh1), .val (.int vh1), .val (.int ve1), .val (.int ve2), .val (.int ve3), .val (.int vw), .val (.int va), .val (.int vb), .val (.int vc), .val (.ref b78), .val (.int (own_home vh1)), .unset, .unset, .unset, .unset, .unset, .unset, .unset] [(.ref b78)]))
    refine OGo.on (fun t k => XS.iload X88.here hx rfl (hb hby at_54) rfl k) ?_
    show OGo p e below s _ _ _ (T88.setTop (mkF m 56 #[.val (.int vh1), .val (.int vh1), .val (.int ve1), .val (.int ve2), .val (.int ve3), .val (.int vw), .val (.int va), .val (.int vb), .val (.int vc), .val (.ref b78), .val (.int (own_home vh1)), .unset, .unset, .unset, .unset, .unset, .unset, .unset] [(.int (own_home vh1)), (.ref b78)]))
    refine OGo.on (fun t k => XS.iloadN X88.here hx rfl (hb hby at_56) rfl k) ?_
    show OGo p e below s _ _ _ (T88.setTop (mkF m 57 #[.val (.int vh1), .val (.int vh1), .val (.int ve1), .val (.int ve2), .val (.int ve3), .val (.int vw), .val (.int va), .val (.int vb), .val (.int vc), .val (.ref b78), .val (.int (own_home vh1)), .unset, .unset, .unset, .unset, .unset, .unset, .unset] [(.int vh1), (.int (own_home vh1)), (.ref b78)]))
    obtain ⟨cq92, kq92, q92a, q92b, q92c⟩ := isOf hZ rfl f89
    obtain ⟨_, _, ⟨T92, L92, k92, n92⟩, -, X92, ⟨Lc92, hQ92, l92, y92, z92⟩, st92⟩ := X88.virtualBack hx (y := (⟨"com/example/metrilog/metrilog/Slots", "next", "(II)I"⟩ : MethodName)) (z := (⟨"com/example/metrilog/metrilog/Slots", "next", "(II)I"⟩ : MethodName)) hown (mvT hZ (hw _ (List.mem_of_getElem? (i := 61) rfl))) (mvT hZ (hw _ (List.mem_of_getElem? (i := 62) rfl))) (notFace_of_selects (args := #[]) (mvT hZ (hw _ (List.mem_of_getElem? (i := 64) rfl)))) (mvT hZ (hw _ (List.mem_of_getElem? (i := 64) rfl))) (mvT hZ (hw _ (List.mem_of_getElem? (i := 63) rfl))) (by decide) (backOf (W := 0) (own_mnext l Z a0 hw [] b78 rb ([(0 : Int64), 0, 0, 0, 0, 0, 0, 0, 0, 0, 0, 0, 0, 0, 0, 0].set (own_home vh1).toNatClampNeg (own_val vh1 va)) (own_home vh1) vh1 (0 : Int64) T88.heap n0 Z90 f89 Fs88 Ar88 (own_len rfl) (own_other (own_zero (in_fol (in_home vh1))) (in_home vh1) (in_fol (in_home vh1)) (Ne.symm (fol_ne (in_home vh1)))) (fun q => absurd rfl q)) hZ (hw _ (List.mem_of_getElem? (i := 65) rfl)) (hw _ (List.mem_of_getElem? (i := 3) rfl)) (by decide) (by decide)) q92a q92c (g := (mkF m 57 #[.val (.int vh1), .val (.int vh1), .val (.int ve1), .val (.int ve2), .val (.int ve3), .val (.int vw), .val (.int va), .val (.int vb), .val (.int vc), .val (.ref b78), .val (.int (own_home vh1)), .unset, .unset, .unset, .unset, .unset, .unset, .unset] [(.int vh1), (.int (own_home vh1)), (.ref b78)])) rfl (by rw [hml]; rfl) (Steps.refl _) (argsL := [(.int (own_home vh1)), (.int vh1)]) (rest := []) (lenOf own_pd2 rfl) rfl (by show 2 * 0 + _ ≤ _; exact Nat.le_of_eq rfl) (hb hby at_57) (fun _ _ => ⟨rfl, rfl, (by decide : 2 + 0 ≤ _), (by decide : 19 + 0 ≤ _)⟩)
    dsimp only [Pt.U, Pt.locs, Pt.cells, Pt.slots] at X92 l92 y92 z92 st92 hQ92
    subst l92 y92 z92
    obtain ⟨rfl, N92q, e92⟩ := hQ92
    have N92 := Fr.app N88 N92q
    refine OGo.on (fun t k => st92.trans k) ?_
    show OGo p e below s _ _ _ (T92.setTop (mkF m 60 #[.val (.int vh1), .val (.int vh1), .val (.int ve1), .val (.int ve2), .val (.int ve3), .val (.int vw), .val (.int va), .val (.int vb), .val (.int vc), .val (.ref b78), .val (.int (own_home vh1)), .unset, .unset, .unset, .unset, .unset, .unset, .unset] [(.int (own_fol (own_home vh1)))]))
    refine OGo.on (fun t k => XS.goto X92.here hx rfl (pc0 := 60) (pc' := 69) rfl (hb hby at_60) (by decide) (by decide) k) ?_
    show OGo p e below s _ _ _ (T92.setTop (mkF m 69 #[.val (.int vh1), .val (.int vh1), .val (.int ve1), .val (.int ve2), .val (.int ve3), .val (.int vw), .val (.int va), .val (.int vb), .val (.int vc), .val (.ref b78), .val (.int (own_home vh1)), .unset, .unset, .unset, .unset, .unset, .unset, .unset] [(.int (own_fol (own_home vh1)))]))
    refine OGo.on (fun t k => XS.istore X92.here hx rfl (hb hby at_69) rfl (l' := #[.val (.int vh1), .val (.int vh1), .val (.int ve1), .val (.int ve2), .val (.int ve3), .val (.int vw), .val (.int va), .val (.int vb), .val (.int vc), .val (.ref b78), .val (.int (own_home vh1)), .val (.int (own_fol (own_home vh1))), .unset, .unset, .unset, .unset, .unset, .unset]) rfl k) ?_
    show OGo p e below s _ _ _ (T92.setTop (mkF m 71 #[.val (.int vh1), .val (.int vh1), .val (.int ve1), .val (.int ve2), .val (.int ve3), .val (.int vw), .val (.int va), .val (.int vb), .val (.int vc), .val (.ref b78), .val (.int (own_home vh1)), .val (.int (own_fol (own_home vh1))), .unset, .unset, .unset, .unset, .unset, .unset] []))
    refine OGo.on (fun t k => XS.aload X92.here hx rfl (hb hby at_71) rfl rfl k) ?_
    show OGo p e below s _ _ _ (T92.setTop (mkF m 73 #[.val (.int vh1), .val (.int vh1), .val (.int ve1), .val (.int ve2), .val (.int ve3), .val (.int vw), .val (.int va), .val (.int vb), .val (.int vc), .val (.ref b78), .val (.int (own_home vh1)), .val (.int (own_fol (own_home vh1))), .unset, .unset, .unset, .unset, .unset, .unset] [(.ref b78)]))
    refine OGo.on (fun t k => XS.iload X92.here hx rfl (hb hby at_73) rfl k) ?_
    show OGo p e below s _ _ _ (T92.setTop (mkF m 75 #[.val (.int vh1), .val (.int vh1), .val (.int ve1), .val (.int ve2), .val (.int ve3), .val (.int vw), .val (.int va), .val (.int vb), .val (.int vc), .val (.ref b78), .val (.int (own_home vh1)), .val (.int (own_fol (own_home vh1))), .unset, .unset, .unset, .unset, .unset, .unset] [(.int (own_fol (own_home vh1))), (.ref b78)]))
    refine OGo.on (fun t k => XS.iloadN X92.here hx rfl (hb hby at_75) rfl k) ?_
    show OGo p e below s _ _ _ (T92.setTop (mkF m 76 #[.val (.int vh1), .val (.int vh1), .val (.int ve1), .val (.int ve2), .val (.int ve3), .val (.int vw), .val (.int va), .val (.int vb), .val (.int vc), .val (.ref b78), .val (.int (own_home vh1)), .val (.int (own_fol (own_home vh1))), .unset, .unset, .unset, .unset, .unset, .unset] [(.int vh1), (.int (own_fol (own_home vh1))), (.ref b78)]))
    refine OGo.on (fun t k => XS.iload X92.here hx rfl (hb hby at_76) rfl k) ?_
    show OGo p e below s _ _ _ (T92.setTop (mkF m 78 #[.val (.int vh1), .val (.int vh1), .val (.int ve1), .val (.int ve2), .val (.int ve3), .val (.int vw), .val (.int va), .val (.int vb), .val (.int vc), .val (.ref b78), .val (.int (own_home vh1)), .val (.int (own_fol (own_home vh1))), .unset, .unset, .unset, .unset, .unset, .unset] [(.int vb), (.int vh1), (.int (own_fol (own_home vh1))), (.ref b78)]))
    obtain ⟨cq93, kq93, q93a, q93b, q93c⟩ := isOf hZ e92 f89
    obtain ⟨_, _, ⟨T93, L93, k93, n93⟩, -, X93, ⟨Lc93, hQ93, l93, y93, z93⟩, st93⟩ := X92.virtualBack hx (y := (⟨"com/example/metrilog/metrilog/Slots", "fill", "(III)V"⟩ : MethodName)) (z := (⟨"com/example/metrilog/metrilog/Slots", "fill", "(III)V"⟩ : MethodName)) hown (mvT hZ (hw _ (List.mem_of_getElem? (i := 39) rfl))) (mvT hZ (hw _ (List.mem_of_getElem? (i := 40) rfl))) (notFace_of_selects (args := #[]) (mvT hZ (hw _ (List.mem_of_getElem? (i := 42) rfl)))) (mvT hZ (hw _ (List.mem_of_getElem? (i := 42) rfl))) (mvT hZ (hw _ (List.mem_of_getElem? (i := 41) rfl))) (by decide) (backOf (W := 0) (own_mfill l Z a0 hw [] b78 rb ([(0 : Int64), 0, 0, 0, 0, 0, 0, 0, 0, 0, 0, 0, 0, 0, 0, 0].set (own_home vh1).toNatClampNeg (own_val vh1 va)) (own_fol (own_home vh1)) vh1 vb (1 : Int32) T88.heap n0 Z90 ge79 g_rb hab f89 Fs88 Fh88 Fg88 Ar88 (own_len rfl) (in_fol (in_home vh1)) (by decide)) hZ (hw _ (List.mem_of_getElem? (i := 43) rfl)) (hw _ (List.mem_of_getElem? (i := 3) rfl)) (by decide) (by decide)) q93a q93c (g := (mkF m 78 #[.val (.int vh1), .val (.int vh1), .val (.int ve1), .val (.int ve2), .val (.int ve3), .val (.int vw), .val (.int va), .val (.int vb), .val (.int vc), .val (.ref b78), .val (.int (own_home vh1)), .val (.int (own_fol (own_home vh1))), .unset, .unset, .unset, .unset, .unset, .unset] [(.int vb), (.int vh1), (.int (own_fol (own_home vh1))), (.ref b78)])) rfl (by rw [hml]; rfl) (Steps.refl _) (argsL := [(.int (own_fol (own_home vh1))), (.int vh1), (.int vb)]) (rest := []) (lenOf own_pd4 rfl) rfl (by show 2 * 0 + _ ≤ _; exact Nat.le_of_eq rfl) (hb hby at_78) (fun _ _ => ⟨rfl, e92, (by decide : 2 + 0 ≤ _), (by decide : 19 + 0 ≤ _)⟩)
    dsimp only [Pt.U, Pt.locs, Pt.cells, Pt.slots] at X93 l93 y93 z93 st93 hQ93
    subst l93 y93 z93
    obtain ⟨rfl, N93q, K93, Fs93, Fh93, Ff93, Ar93⟩ := hQ93
    have N93 := Fr.app N92 N93q
    have Fg93 : Fld Z T93.heap b78 "com/example/metrilog/metrilog/Slots" "filled" "I" (.int (2 : Int32)) := Ff93
    have f94 : Exa Z T93.heap b78 "com/example/metrilog/metrilog/Slots" := f89.keep K93
    have Z95 : n0 ≤ T93.heap.size := Nat.le_trans Z90 K93.1
    refine OGo.on (fun t k => st93.trans k) ?_
    show OGo p e below s _ _ _ (T93.setTop (mkF m 81 #[.val (.int vh1), .val (.int vh1), .val (.int ve1), .val (.int ve2), .val (.int ve3), .val (.int vw), .val (.int va), .val (.int vb), .val (.int vc), .val (.ref b78), .val (.int (own_home vh1)), .val (.int (own_fol (own_home vh1))), .unset, .unset, .unset, .unset, .unset, .unset] []))
    refine OGo.on (fun t k => XS.iload X93.here hx rfl (hb hby at_81) rfl k) ?_
    show OGo p e below s _ _ _ (T93.setTop (mkF m 83 #[.val (.int vh1), .val (.int vh1), .val (.int ve1), .val (.int ve2), .val (.int ve3), .val (.int vw), .val (.int va), .val (.int vb), .val (.int vc), .val (.ref b78), .val (.int (own_home vh1)), .val (.int (own_fol (own_home vh1))), .unset, .unset, .unset, .unset, .unset, .unset] [(.int vw)]))
    refine OGo.on (fun t k => XS.iconst X93.here hx rfl (hb hby at_83) k) ?_
    show OGo p e below s _ _ _ (T93.setTop (mkF m 84 #[.val (.int vh1), .val (.int vh1), .val (.int ve1), .val (.int ve2), .val (.int ve3), .val (.int vw), .val (.int va), .val (.int vb), .val (.int vc), .val (.ref b78), .val (.int (own_home vh1)), .val (.int (own_fol (own_home vh1))), .unset, .unset, .unset, .unset, .unset, .unset] [(.int (1 : Int32)), (.int vw)]))
    refine OGo.on (fun t k => XS.iand X93.here hx rfl (hb hby at_84) rfl k) ?_
    show OGo p e below s _ _ _ (T93.setTop (mkF m 85 #[.val (.int vh1), .val (.int vh1), .val (.int ve1), .val (.int ve2), .val (.int ve3), .val (.int vw), .val (.int va), .val (.int vb), .val (.int vc), .val (.ref b78), .val (.int (own_home vh1)), .val (.int (own_fol (own_home vh1))), .unset, .unset, .unset, .unset, .unset, .unset] [(.int (vw &&& (1 : Int32)))]))
    by_cases hc96 : (vw &&& (1 : Int32)) = (0 : Int32)
    · refine OGo.on (fun t k => XS.ifYes X93.here hx rfl (pc0 := 85) (pc' := 92) rfl (hb hby at_85) rfl ((if0 _ _).trans (teq hc96).1) (by decide) (by decide) k) ?_
      show OGo p e below s _ _ _ (T93.setTop (mkF m 92 #[.val (.int vh1), .val (.int vh1), .val (.int ve1), .val (.int ve2), .val (.int ve3), .val (.int vw), .val (.int va), .val (.int vb), .val (.int vc), .val (.ref b78), .val (.int (own_home vh1)), .val (.int (own_fol (own_home vh1))), .unset, .unset, .unset, .unset, .unset, .unset] []))
      refine OGo.on (fun t k => XS.iconst X93.here hx rfl (hb hby at_92) k) ?_
      show OGo p e below s _ _ _ (T93.setTop (mkF m 93 #[.val (.int vh1), .val (.int vh1), .val (.int ve1), .val (.int ve2), .val (.int ve3), .val (.int vw), .val (.int va), .val (.int vb), .val (.int vc), .val (.ref b78), .val (.int (own_home vh1)), .val (.int (own_fol (own_home vh1))), .unset, .unset, .unset, .unset, .unset, .unset] [(.int (0 : Int32))]))
      refine OGo.on (fun t k => XS.istore X93.here hx rfl (hb hby at_93) rfl (l' := #[.val (.int vh1), .val (.int vh1), .val (.int ve1), .val (.int ve2), .val (.int ve3), .val (.int vw), .val (.int va), .val (.int vb), .val (.int vc), .val (.ref b78), .val (.int (own_home vh1)), .val (.int (own_fol (own_home vh1))), .val (.int (0 : Int32)), .unset, .unset, .unset, .unset, .unset]) rfl k) ?_
      show OGo p e below s _ _ _ (T93.setTop (mkF m 95 #[.val (.int vh1), .val (.int vh1), .val (.int ve1), .val (.int ve2), .val (.int ve3), .val (.int vw), .val (.int va), .val (.int vb), .val (.int vc), .val (.ref b78), .val (.int (own_home vh1)), .val (.int (own_fol (own_home vh1))), .val (.int (0 : Int32)), .unset, .unset, .unset, .unset, .unset] []))
      refine OGo.on (fun t k => XS.iload X93.here hx rfl (hb hby at_95) rfl k) ?_
      show OGo p e below s _ _ _ (T93.setTop (mkF m 97 #[.val (.int vh1), .val (.int vh1), .val (.int ve1), .val (.int ve2), .val (.int ve3), .val (.int vw), .val (.int va), .val (.int vb), .val (.int vc), .val (.ref b78), .val (.int (own_home vh1)), .val (.int (own_fol (own_home vh1))), .val (.int (0 : Int32)), .unset, .unset, .unset, .unset, .unset] [(.int (0 : Int32))]))
      refine OGo.on (fun t k => XS.ifYes X93.here hx rfl (pc0 := 97) (pc' := 105) rfl (hb hby at_97) rfl ((if0 _ _).trans (teq (by decide)).1) (by decide) (by decide) k) ?_
      show OGo p e below s _ _ _ (T93.setTop (mkF m 105 #[.val (.int vh1), .val (.int vh1), .val (.int ve1), .val (.int ve2), .val (.int ve3), .val (.int vw), .val (.int va), .val (.int vb), .val (.int vc), .val (.ref b78), .val (.int (own_home vh1)), .val (.int (own_fol (own_home vh1))), .val (.int (0 : Int32)), .unset, .unset, .unset, .unset, .unset] []))
      refine OGo.on (fun t k => XS.iload X93.here hx rfl (hb hby at_105) rfl k) ?_
      show OGo p e below s _ _ _ (T93.setTop (mkF m 107 #[.val (.int vh1), .val (.int vh1), .val (.int ve1), .val (.int ve2), .val (.int ve3), .val (.int vw), .val (.int va), .val (.int vb), .val (.int vc), .val (.ref b78), .val (.int (own_home vh1)), .val (.int (own_fol (own_home vh1))), .val (.int (0 : Int32)), .unset, .unset, .unset, .unset, .unset] [(.int (own_home vh1))]))
      refine OGo.on (fun t k => XS.istore X93.here hx rfl (hb hby at_107) rfl (l' := #[.val (.int vh1), .val (.int vh1), .val (.int ve1), .val (.int ve2), .val (.int ve3), .val (.int vw), .val (.int va), .val (.int vb), .val (.int vc), .val (.ref b78), .val (.int (own_home vh1)), .val (.int (own_fol (own_home vh1))), .val (.int (0 : Int32)), .val (.int (own_home vh1)), .unset, .unset, .unset, .unset]) rfl k) ?_
      show OGo p e below s _ _ _ (T93.setTop (mkF m 109 #[.val (.int vh1), .val (.int vh1), .val (.int ve1), .val (.int ve2), .val (.int ve3), .val (.int vw), .val (.int va), .val (.int vb), .val (.int vc), .val (.ref b78), .val (.int (own_home vh1)), .val (.int (own_fol (own_home vh1))), .val (.int (0 : Int32)), .val (.int (own_home vh1)), .unset, .unset, .unset, .unset] []))
      refine OGo.on (fun t k => XS.iload X93.here hx rfl (hb hby at_109) rfl k) ?_
      show OGo p e below s _ _ _ (T93.setTop (mkF m 111 #[.val (.int vh1), .val (.int vh1), .val (.int ve1), .val (.int ve2), .val (.int ve3), .val (.int vw), .val (.int va), .val (.int vb), .val (.int vc), .val (.ref b78), .val (.int (own_home vh1)), .val (.int (own_fol (own_home vh1))), .val (.int (0 : Int32)), .val (.int (own_home vh1)), .unset, .unset, .unset, .unset] [(.int (0 : Int32))]))
      refine OGo.on (fun t k => XS.ifYes X93.here hx rfl (pc0 := 111) (pc' := 119) rfl (hb hby at_111) rfl ((if0 _ _).trans (teq (by decide)).1) (by decide) (by decide) k) ?_
      show OGo p e below s _ _ _ (T93.setTop (mkF m 119 #[.val (.int vh1), .val (.int vh1), .val (.int ve1), .val (.int ve2), .val (.int ve3), .val (.int vw), .val (.int va), .val (.int vb), .val (.int vc), .val (.ref b78), .val (.int (own_home vh1)), .val (.int (own_fol (own_home vh1))), .val (.int (0 : Int32)), .val (.int (own_home vh1)), .unset, .unset, .unset, .unset] []))
      refine OGo.on (fun t k => XS.iload X93.here hx rfl (hb hby at_119) rfl k) ?_
      show OGo p e below s _ _ _ (T93.setTop (mkF m 121 #[.val (.int vh1), .val (.int vh1), .val (.int ve1), .val (.int ve2), .val (.int ve3), .val (.int vw), .val (.int va), .val (.int vb), .val (.int vc), .val (.ref b78), .val (.int (own_home vh1)), .val (.int (own_fol (own_home vh1))), .val (.int (0 : Int32)), .val (.int (own_home vh1)), .unset, .unset, .unset, .unset] [(.int (own_fol (own_home vh1)))]))
      refine OGo.on (fun t k => XS.istore X93.here hx rfl (hb hby at_121) rfl (l' := #[.val (.int vh1), .val (.int vh1), .val (.int ve1), .val (.int ve2), .val (.int ve3), .val (.int vw), .val (.int va), .val (.int vb), .val (.int vc), .val (.ref b78), .val (.int (own_home vh1)), .val (.int (own_fol (own_home vh1))), .val (.int (0 : Int32)), .val (.int (own_home vh1)), .val (.int (own_fol (own_home vh1))), .unset, .unset, .unset]) rfl k) ?_
      show OGo p e below s _ _ _ (T93.setTop (mkF m 123 #[.val (.int vh1), .val (.int vh1), .val (.int ve1), .val (.int ve2), .val (.int ve3), .val (.int vw), .val (.int va), .val (.int vb), .val (.int vc), .val (.ref b78), .val (.int (own_home vh1)), .val (.int (own_fol (own_home vh1))), .val (.int (0 : Int32)), .val (.int (own_home vh1)), .val (.int (own_fol (own_home vh1))), .unset, .unset, .unset] []))
      refine OGo.on (fun t k => XS.iload X93.here hx rfl (hb hby at_123) rfl k) ?_
      show OGo p e below s _ _ _ (T93.setTop (mkF m 125 #[.val (.int vh1), .val (.int vh1), .val (.int ve1), .val (.int ve2), .val (.int ve3), .val (.int vw), .val (.int va), .val (.int vb), .val (.int vc), .val (.ref b78), .val (.int (own_home vh1)), .val (.int (own_fol (own_home vh1))), .val (.int (0 : Int32)), .val (.int (own_home vh1)), .val (.int (own_fol (own_home vh1))), .unset, .unset, .unset] [(.int (0 : Int32))]))
      refine OGo.on (fun t k => XS.ifYes X93.here hx rfl (pc0 := 125) (pc' := 132) rfl (hb hby at_125) rfl ((if0 _ _).trans (teq (by decide)).1) (by decide) (by decide) k) ?_
      show OGo p e below s _ _ _ (T93.setTop (mkF m 132 #[.val (.int vh1), .val (.int vh1), .val (.int ve1), .val (.int ve2), .val (.int ve3), .val (.int vw), .val (.int va), .val (.int vb), .val (.int vc), .val (.ref b78), .val (.int (own_home vh1)), .val (.int (own_fol (own_home vh1))), .val (.int (0 : Int32)), .val (.int (own_home vh1)), .val (.int (own_fol (own_home vh1))), .unset, .unset, .unset] []))
      refine OGo.on (fun t k => XS.iloadN X93.here hx rfl (hb hby at_132) rfl k) ?_
      show OGo p e below s _ _ _ (T93.setTop (mkF m 133 #[.val (.int vh1), .val (.int vh1), .val (.int ve1), .val (.int ve2), .val (.int ve3), .val (.int vw), .val (.int va), .val (.int vb), .val (.int vc), .val (.ref b78), .val (.int (own_home vh1)), .val (.int (own_fol (own_home vh1))), .val (.int (0 : Int32)), .val (.int (own_home vh1)), .val (.int (own_fol (own_home vh1))), .unset, .unset, .unset] [(.int vh1)]))
      refine OGo.on (fun t k => XS.istore X93.here hx rfl (hb hby at_133) rfl (l' := #[.val (.int vh1), .val (.int vh1), .val (.int ve1), .val (.int ve2), .val (.int ve3), .val (.int vw), .val (.int va), .val (.int vb), .val (.int vc), .val (.ref b78), .val (.int (own_home vh1)), .val (.int (own_fol (own_home vh1))), .val (.int (0 : Int32)), .val (.int (own_home vh1)), .val (.int (own_fol (own_home vh1))), .val (.int vh1), .unset, .unset]) rfl k) ?_
      show OGo p e below s _ _ _ (T93.setTop (mkF m 135 #[.val (.int vh1), .val (.int vh1), .val (.int ve1), .val (.int ve2), .val (.int ve3), .val (.int vw), .val (.int va), .val (.int vb), .val (.int vc), .val (.ref b78), .val (.int (own_home vh1)), .val (.int (own_fol (own_home vh1))), .val (.int (0 : Int32)), .val (.int (own_home vh1)), .val (.int (own_fol (own_home vh1))), .val (.int vh1), .unset, .unset] []))
      refine OGo.on (fun t k => XS.iload X93.here hx rfl (hb hby at_135) rfl k) ?_
      show OGo p e below s _ _ _ (T93.setTop (mkF m 137 #[.val (.int vh1), .val (.int vh1), .val (.int ve1), .val (.int ve2), .val (.int ve3), .val (.int vw), .val (.int va), .val (.int vb), .val (.int vc), .val (.ref b78), .val (.int (own_home vh1)), .val (.int (own_fol (own_home vh1))), .val (.int (0 : Int32)), .val (.int (own_home vh1)), .val (.int (own_fol (own_home vh1))), .val (.int vh1), .unset, .unset] [(.int (0 : Int32))]))
      refine OGo.on (fun t k => XS.ifYes X93.here hx rfl (pc0 := 137) (pc' := 145) rfl (hb hby at_137) rfl ((if0 _ _).trans (teq (by decide)).1) (by decide) (by decide) k) ?_
      show OGo p e below s _ _ _ (T93.setTop (mkF m 145 #[.val (.int vh1), .val (.int vh1), .val (.int ve1), .val (.int ve2), .val (.int ve3), .val (.int vw), .val (.int va), .val (.int vb), .val (.int vc), .val (.ref b78), .val (.int (own_home vh1)), .val (.int (own_fol (own_home vh1))), .val (.int (0 : Int32)), .val (.int (own_home vh1)), .val (.int (own_fol (own_home vh1))), .val (.int vh1), .unset, .unset] []))
      refine OGo.on (fun t k => XS.iload X93.here hx rfl (hb hby at_145) rfl k) ?_
      show OGo p e below s _ _ _ (T93.setTop (mkF m 147 #[.val (.int vh1), .val (.int vh1), .val (.int ve1), .val (.int ve2), .val (.int ve3), .val (.int vw), .val (.int va), .val (.int vb), .val (.int vc), .val (.ref b78), .val (.int (own_home vh1)), .val (.int (own_fol (own_home vh1))), .val (.int (0 : Int32)), .val (.int (own_home vh1)), .val (.int (own_fol (own_home vh1))), .val (.int vh1), .unset, .unset] [(.int vb)]))
      refine OGo.on (fun t k => XS.istore X93.here hx rfl (hb hby at_147) rfl (l' := #[.val (.int vh1), .val (.int vh1), .val (.int ve1), .val (.int ve2), .val (.int ve3), .val (.int vw), .val (.int va), .val (.int vb), .val (.int vc), .val (.ref b78), .val (.int (own_home vh1)), .val (.int (own_fol (own_home vh1))), .val (.int (0 : Int32)), .val (.int (own_home vh1)), .val (.int (own_fol (own_home vh1))), .val (.int vh1), .val (.int vb), .unset]) rfl k) ?_
      show OGo p e below s _ _ _ (T93.setTop (mkF m 149 #[.val (.int vh1), .val (.int vh1), .val (.int ve1), .val (.int ve2), .val (.int ve3), .val (.int vw), .val (.int va), .val (.int vb), .val (.int vc), .val (.ref b78), .val (.int (own_home vh1)), .val (.int (own_fol (own_home vh1))), .val (.int (0 : Int32)), .val (.int (own_home vh1)), .val (.int (own_fol (own_home vh1))), .val (.int vh1), .val (.int vb), .unset] []))
      refine OGo.on (fun t k => XS.aload X93.here hx rfl (hb hby at_149) rfl rfl k) ?_
      show OGo p e below s _ _ _ (T93.setTop (mkF m 151 #[.val (.int vh1), .val (.int vh1), .val (.int ve1), .val (.int ve2), .val (.int ve3), .val (.int vw), .val (.int va), .val (.int vb), .val (.int vc), .val (.ref b78), .val (.int (own_home vh1)), .val (.int (own_fol (own_home vh1))), .val (.int (0 : Int32)), .val (.int (own_home vh1)), .val (.int (own_fol (own_home vh1))), .val (.int vh1), .val (.int vb), .unset] [(.ref b78)]))
      refine OGo.on (fun t k => XS.iload X93.here hx rfl (hb hby at_151) rfl k) ?_
      show OGo p e below s _ _ _ (T93.setTop (mkF m 153 #[.val (.int vh1), .val (.int vh1), .val (.int ve1), .val (.int ve2), .val (.int ve3), .val (.int vw), .val (.int va), .val (.int vb), .val (.int vc), .val (.ref b78), .val (.int (own_home vh1)), .val (.int (own_fol (own_home vh1))), .val (.int (0 : Int32)), .val (.int (own_home vh1)), .val (.int (own_fol (own_home vh1))), .val (.int vh1), .val (.int vb), .unset] [(.int (own_home vh1)), (.ref b78)]))
      refine OGo.on (fun t k => XS.iload X93.here hx rfl (hb hby at_153) rfl k) ?_
      show OGo p e below s _ _ _ (T93.setTop (mkF m 155 #[.val (.int vh1), .val (.int vh1), .val (.int ve1), .val (.int ve2), .val (.int ve3), .val (.int vw), .val (.int va), .val (.int vb), .val (.int vc), .val (.ref b78), .val (.int (own_home vh1)), .val (.int (own_fol (own_home vh1))), .val (.int (0 : Int32)), .val (.int (own_home vh1)), .val (.int (own_fol (own_home vh1))), .val (.int vh1), .val (.int vb), .unset] [(.int vc), (.int (own_home vh1)), (.ref b78)]))
      obtain ⟨cq97, kq97, q97a, q97b, q97c⟩ := isOf hZ rfl f94
      obtain ⟨_, _, ⟨T97, L97, k97, n97⟩, -, X97, ⟨Lc97, hQ97, l97, y97, z97⟩, st97⟩ := X93.virtualBack hx (y := (⟨"com/example/metrilog/metrilog/Slots", "replace", "(II)V"⟩ : MethodName)) (z := (⟨"com/example/metrilog/metrilog/Slots", "replace", "(II)V"⟩ : MethodName)) hown (mvT hZ (hw _ (List.mem_of_getElem? (i := 46) rfl))) (mvT hZ (hw _ (List.mem_of_getElem? (i := 47) rfl))) (notFace_of_selects (args := #[]) (mvT hZ (hw _ (List.mem_of_getElem? (i := 49) rfl)))) (mvT hZ (hw _ (List.mem_of_getElem? (i := 49) rfl))) (mvT hZ (hw _ (List.mem_of_getElem? (i := 48) rfl))) (by decide) (backOf (W := 0) (own_mrep l Z a0 hw [] b78 rb (([(0 : Int64), 0, 0, 0, 0, 0, 0, 0, 0, 0, 0, 0, 0, 0, 0, 0].set (own_home vh1).toNatClampNeg (own_val vh1 va)).set (own_fol (own_home vh1)).toNatClampNeg (own_val vh1 vb)) (own_home vh1) vc (own_val vh1 va) T93.heap n0 Z95 g_rb hab Fs93 Ar93 (own_len (own_len rfl)) (in_home vh1) (own_other (own_same (in_home vh1) rfl) (in_fol (in_home vh1)) (in_home vh1) (fol_ne (in_home vh1)))) hZ (hw _ (List.mem_of_getElem? (i := 50) rfl)) (hw _ (List.mem_of_getElem? (i := 3) rfl)) (by decide) (by decide)) q97a q97c (g := (mkF m 155 #[.val (.int vh1), .val (.int vh1), .val (.int ve1), .val (.int ve2), .val (.int ve3), .val (.int vw), .val (.int va), .val (.int vb), .val (.int vc), .val (.ref b78), .val (.int (own_home vh1)), .val (.int (own_fol (own_home vh1))), .val (.int (0 : Int32)), .val (.int (own_home vh1)), .val (.int (own_fol (own_home vh1))), .val (.int vh1), .val (.int vb), .unset] [(.int vc), (.int (own_home vh1)), (.ref b78)])) rfl (by rw [hml]; rfl) (Steps.refl _) (argsL := [(.int (own_home vh1)), (.int vc)]) (rest := []) (lenOf own_pd5 rfl) rfl (by show 2 * 0 + _ ≤ _; exact Nat.le_of_eq rfl) (hb hby at_155) (fun _ _ => ⟨rfl, rfl, (by decide : 2 + 0 ≤ _), (by decide : 19 + 0 ≤ _)⟩)
      dsimp only [Pt.U, Pt.locs, Pt.cells, Pt.slots] at X97 l97 y97 z97 st97 hQ97
      subst l97 y97 z97
      obtain ⟨rfl, N97q, K97, Ar97⟩ := hQ97
      have N97 := Fr.app N93 N97q
      rw [own_rv hva hvc] at Ar97
      have f98 : Exa Z T97.heap b78 "com/example/metrilog/metrilog/Slots" := f94.keep K97
      have f99 : Fld Z T97.heap b78 "com/example/metrilog/metrilog/Slots" "slots" "[J" (.ref rb) := Fs93.keep K97 (own_nm1 hab)
      have f100 : Fld Z T97.heap b78 "com/example/metrilog/metrilog/Slots" "shift" "I" (.int (28 : Int32)) := Fh93.keep K97 (own_nm1 hab)
      have f101 : Fld Z T97.heap b78 "com/example/metrilog/metrilog/Slots" "filled" "I" (.int (2 : Int32)) := Fg93.keep K97 (own_nm1 hab)
      have Z102 : n0 ≤ T97.heap.size := Nat.le_trans Z95 K97.1
      refine OGo.on (fun t k => st97.trans k) ?_
      show OGo p e below s _ _ _ (T97.setTop (mkF m 158 #[.val (.int vh1), .val (.int vh1), .val (.int ve1), .val (.int ve2), .val (.int ve3), .val (.int vw), .val (.int va), .val (.int vb), .val (.int vc), .val (.ref b78), .val (.int (own_home vh1)), .val (.int (own_fol (own_home vh1))), .val (.int (0 : Int32)), .val (.int (own_home vh1)), .val (.int (own_fol (own_home vh1))), .val (.int vh1), .val (.int vb), .unset] []))
      refine OGo.on (fun t k => XS.aload X97.here hx rfl (hb hby at_158) rfl rfl k) ?_
      show OGo p e below s _ _ _ (T97.setTop (mkF m 160 #[.val (.int vh1), .val (.int vh1), .val (.int ve1), .val (.int ve2), .val (.int ve3), .val (.int vw), .val (.int va), .val (.int vb), .val (.int vc), .val (.ref b78), .val (.int (own_home vh1)), .val (.int (own_fol (own_home vh1))), .val (.int (0 : Int32)), .val (.int (own_home vh1)), .val (.int (own_fol (own_home vh1))), .val (.int vh1), .val (.int vb), .unset] [(.ref b78)]))
      refine OGo.on (fun t k => XS.iload X97.here hx rfl (hb hby at_160) rfl k) ?_
      show OGo p e below s _ _ _ (T97.setTop (mkF m 162 #[.val (.int vh1), .val (.int vh1), .val (.int ve1), .val (.int ve2), .val (.int ve3), .val (.int vw), .val (.int va), .val (.int vb), .val (.int vc), .val (.ref b78), .val (.int (own_home vh1)), .val (.int (own_fol (own_home vh1))), .val (.int (0 : Int32)), .val (.int (own_home vh1)), .val (.int (own_fol (own_home vh1))), .val (.int vh1), .val (.int vb), .unset] [(.int vh1), (.ref b78)]))
      obtain ⟨cq103, kq103, q103a, q103b, q103c⟩ := isOf hZ rfl f98
      obtain ⟨_, _, ⟨T103, L103, k103, n103⟩, -, X103, ⟨Lc103, hQ103, l103, y103, z103⟩, st103⟩ := X97.virtualBack hx (y := (⟨"com/example/metrilog/metrilog/Slots", "first", "(I)I"⟩ : MethodName)) (z := (⟨"com/example/metrilog/metrilog/Slots", "first", "(I)I"⟩ : MethodName)) hown (mvT hZ (hw _ (List.mem_of_getElem? (i := 22) rfl))) (mvT hZ (hw _ (List.mem_of_getElem? (i := 23) rfl))) (notFace_of_selects (args := #[]) (mvT hZ (hw _ (List.mem_of_getElem? (i := 25) rfl)))) (mvT hZ (hw _ (List.mem_of_getElem? (i := 25) rfl))) (mvT hZ (hw _ (List.mem_of_getElem? (i := 24) rfl))) (by decide) (backOf (W := 0) (own_first0 l Z a0 hw [] b78 rb ((([(0 : Int64), 0, 0, 0, 0, 0, 0, 0, 0, 0, 0, 0, 0, 0, 0, 0].set (own_home vh1).toNatClampNeg (own_val vh1 va)).set (own_fol (own_home vh1)).toNatClampNeg (own_val vh1 vb)).set (own_home vh1).toNatClampNeg (own_val vh1 vc)) vh1 (own_val vh1 vc) T97.heap n0 Z102 f98 f99 f100 Ar97 (own_len (own_len (own_len rfl))) (own_same (in_home vh1) (own_len (own_len rfl))) (fun _ => own_hv hvc)) hZ (hw _ (List.mem_of_getElem? (i := 26) rfl)) (hw _ (List.mem_of_getElem? (i := 3) rfl)) (by decide) (by decide)) q103a q103c (g := (mkF m 162 #[.val (.int vh1), .val (.int vh1), .val (.int ve1), .val (.int ve2), .val (.int ve3), .val (.int vw), .val (.int va), .val (.int vb), .val (.int vc), .val (.ref b78), .val (.int (own_home vh1)), .val (.int (own_fol (own_home vh1))), .val (.int (0 : Int32)), .val (.int (own_home vh1)), .val (.int (own_fol (own_home vh1))), .val (.int vh1), .val (.int vb), .unset] [(.int vh1), (.ref b78)])) rfl (by rw [hml]; rfl) (Steps.refl _) (argsL := [(.int vh1)]) (rest := []) (lenOf own_pd1 rfl) rfl (by show 2 * 0 + _ ≤ _; exact Nat.le_of_eq rfl) (hb hby at_162) (fun _ _ => ⟨rfl, rfl, (by decide : 2 + 0 ≤ _), (by decide : 19 + 0 ≤ _)⟩)
      dsimp only [Pt.U, Pt.locs, Pt.cells, Pt.slots] at X103 l103 y103 z103 st103 hQ103
      subst l103 y103 z103
      obtain ⟨rfl, N103q, e103⟩ := hQ103
      have N103 := Fr.app N97 N103q
      refine OGo.on (fun t k => st103.trans k) ?_
      show OGo p e below s _ _ _ (T103.setTop (mkF m 165 #[.val (.int vh1), .val (.int vh1), .val (.int ve1), .val (.int ve2), .val (.int ve3), .val (.int vw), .val (.int va), .val (.int vb), .val (.int vc), .val (.ref b78), .val (.int (own_home vh1)), .val (.int (own_fol (own_home vh1))), .val (.int (0 : Int32)), .val (.int (own_home vh1)), .val (.int (own_fol (own_home vh1))), .val (.int vh1), .val (.int vb), .unset] [(.int (own_home vh1))]))
      refine OGo.on (fun t k => XS.istore X103.here hx rfl (hb hby at_165) rfl (l' := #[.val (.int vh1), .val (.int vh1), .val (.int ve1), .val (.int ve2), .val (.int ve3), .val (.int vw), .val (.int va), .val (.int vb), .val (.int vc), .val (.ref b78), .val (.int (own_home vh1)), .val (.int (own_fol (own_home vh1))), .val (.int (0 : Int32)), .val (.int (own_home vh1)), .val (.int (own_fol (own_home vh1))), .val (.int vh1), .val (.int vb), .val (.int (own_home vh1))]) rfl k) ?_
      show OGo p e below s _ _ _ (T103.setTop (mkF m 167 #[.val (.int vh1), .val (.int vh1), .val (.int ve1), .val (.int ve2), .val (.int ve3), .val (.int vw), .val (.int va), .val (.int vb), .val (.int vc), .val (.ref b78), .val (.int (own_home vh1)), .val (.int (own_fol (own_home vh1))), .val (.int (0 : Int32)), .val (.int (own_home vh1)), .val (.int (own_fol (own_home vh1))), .val (.int vh1), .val (.int vb), .val (.int (own_home vh1))] []))
      refine OGo.on (fun t k => XS.iload X103.here hx rfl (hb hby at_167) rfl k) ?_
      show OGo p e below s _ _ _ (T103.setTop (mkF m 169 #[.val (.int vh1), .val (.int vh1), .val (.int ve1), .val (.int ve2), .val (.int ve3), .val (.int vw), .val (.int va), .val (.int vb), .val (.int vc), .val (.ref b78), .val (.int (own_home vh1)), .val (.int (own_fol (own_home vh1))), .val (.int (0 : Int32)), .val (.int (own_home vh1)), .val (.int (own_fol (own_home vh1))), .val (.int vh1), .val (.int vb), .val (.int (own_home vh1))] [(.int (own_home vh1))]))
      refine OGo.on (fun t k => XS.iload X103.here hx rfl (hb hby at_169) rfl k) ?_
      show OGo p e below s _ _ _ (T103.setTop (mkF m 171 #[.val (.int vh1), .val (.int vh1), .val (.int ve1), .val (.int ve2), .val (.int ve3), .val (.int vw), .val (.int va), .val (.int vb), .val (.int vc), .val (.ref b78), .val (.int (own_home vh1)), .val (.int (own_fol (own_home vh1))), .val (.int (0 : Int32)), .val (.int (own_home vh1)), .val (.int (own_fol (own_home vh1))), .val (.int vh1), .val (.int vb), .val (.int (own_home vh1))] [(.int (own_home vh1)), (.int (own_home vh1))]))
      refine OGo.on (fun t k => XS.icmpYes X103.here hx rfl (pc0 := 171) (pc' := 185) rfl (hb hby at_171) rfl (teq rfl).1 (by decide) (by decide) k) ?_
      show OGo p e below s _ _ _ (T103.setTop (mkF m 185 #[.val (.int vh1), .val (.int vh1), .val (.int ve1), .val (.int ve2), .val (.int ve3), .val (.int vw), .val (.int va), .val (.int vb), .val (.int vc), .val (.ref b78), .val (.int (own_home vh1)), .val (.int (own_fol (own_home vh1))), .val (.int (0 : Int32)), .val (.int (own_home vh1)), .val (.int (own_fol (own_home vh1))), .val (.int vh1), .val (.int vb), .val (.int (own_home vh1))] []))
      refine OGo.on (fun t k => XS.iload X103.here hx rfl (hb hby at_185) rfl k) ?_
      show OGo p e below s _ _ _ (T103.setTop (mkF m 187 #[.val (.int vh1), .val (.int vh1), .val (.int ve1), .val (.int ve2), .val (.int ve3), .val (.int vw), .val (.int va), .val (.int vb), .val (.int vc), .val (.ref b78), .val (.int (own_home vh1)), .val (.int (own_fol (own_home vh1))), .val (.int (0 : Int32)), .val (.int (own_home vh1)), .val (.int (own_fol (own_home vh1))), .val (.int vh1), .val (.int vb), .val (.int (own_home vh1))] [(.int (own_home vh1))]))
      refine OGo.on (fun t k => XS.iload X103.here hx rfl (hb hby at_187) rfl k) ?_
      show OGo p e below s _ _ _ (T103.setTop (mkF m 189 #[.val (.int vh1), .val (.int vh1), .val (.int ve1), .val (.int ve2), .val (.int ve3), .val (.int vw), .val (.int va), .val (.int vb), .val (.int vc), .val (.ref b78), .val (.int (own_home vh1)), .val (.int (own_fol (own_home vh1))), .val (.int (0 : Int32)), .val (.int (own_home vh1)), .val (.int (own_fol (own_home vh1))), .val (.int vh1), .val (.int vb), .val (.int (own_home vh1))] [(.int (own_home vh1)), (.int (own_home vh1))]))
      refine OGo.on (fun t k => XS.icmpNo X103.here hx rfl (hb hby at_189) rfl (teq rfl).2 k) ?_
      show OGo p e below s _ _ _ (T103.setTop (mkF m 192 #[.val (.int vh1), .val (.int vh1), .val (.int ve1), .val (.int ve2), .val (.int ve3), .val (.int vw), .val (.int va), .val (.int vb), .val (.int vc), .val (.ref b78), .val (.int (own_home vh1)), .val (.int (own_fol (own_home vh1))), .val (.int (0 : Int32)), .val (.int (own_home vh1)), .val (.int (own_fol (own_home vh1))), .val (.int vh1), .val (.int vb), .val (.int (own_home vh1))] []))
      refine OGo.on (fun t k => XS.aload X103.here hx rfl (hb hby at_192) rfl rfl k) ?_
      show OGo p e below s _ _ _ (T103.setTop (mkF m 194 #[.val (.int vh1), .val (.int vh1), .val (.int ve1), .val (.int ve2), .val (.int ve3), .val (.int vw), .val (.int va), .val (.int vb), .val (.int vc), .val (.ref b78), .val (.int (own_home vh1)), .val (.int (own_fol (own_home vh1))), .val (.int (0 : Int32)), .val (.int (own_home vh1)), .val (.int (own_fol (own_home vh1))), .val (.int vh1), .val (.int vb), .val (.int (own_home vh1))] [(.ref b78)]))
      refine OGo.on (fun t k => XS.iload X103.here hx rfl (hb hby at_194) rfl k) ?_
      show OGo p e below s _ _ _ (T103.setTop (mkF m 196 #[.val (.int vh1), .val (.int vh1), .val (.int ve1), .val (.int ve2), .val (.int ve3), .val (.int vw), .val (.int va), .val (.int vb), .val (.int vc), .val (.ref b78), .val (.int (own_home vh1)), .val (.int (own_fol (own_home vh1))), .val (.int (0 : Int32)), .val (.int (own_home vh1)), .val (.int (own_fol (own_home vh1))), .val (.int vh1), .val (.int vb), .val (.int (own_home vh1))] [(.int (own_home vh1)), (.ref b78)]))
      obtain ⟨cq104, kq104, q104a, q104b, q104c⟩ := isOf hZ e103 f98
      obtain ⟨_, _, ⟨T104, L104, k104, n104⟩, -, X104, ⟨Lc104, hQ104, l104, y104, z104⟩, st104⟩ := X103.virtualBack hx (y := (⟨"com/example/metrilog/metrilog/Slots", "entry", "(I)I"⟩ : MethodName)) (z := (⟨"com/example/metrilog/metrilog/Slots", "entry", "(I)I"⟩ : MethodName)) hown (mvT hZ (hw _ (List.mem_of_getElem? (i := 52) rfl))) (mvT hZ (hw _ (List.mem_of_getElem? (i := 53) rfl))) (notFace_of_selects (args := #[]) (mvT hZ (hw _ (List.mem_of_getElem? (i := 55) rfl)))) (mvT hZ (hw _ (List.mem_of_getElem? (i := 55) rfl))) (mvT hZ (hw _ (List.mem_of_getElem? (i := 54) rfl))) (by decide) (backOf (W := 0) (own_mentry l Z a0 hw [] b78 rb ((([(0 : Int64), 0, 0, 0, 0, 0, 0, 0, 0, 0, 0, 0, 0, 0, 0, 0].set (own_home vh1).toNatClampNeg (own_val vh1 va)).set (own_fol (own_home vh1)).toNatClampNeg (own_val vh1 vb)).set (own_home vh1).toNatClampNeg (own_val vh1 vc)) (own_home vh1) (own_val vh1 vc) T97.heap n0 Z102 f99 Ar97 (own_len (own_len (own_len rfl))) (own_same (in_home vh1) (own_len (own_len rfl)))) hZ (hw _ (List.mem_of_getElem? (i := 56) rfl)) (hw _ (List.mem_of_getElem? (i := 3) rfl)) (by decide) (by decide)) q104a q104c (g := (mkF m 196 #[.val (.int vh1), .val (.int vh1), .val (.int ve1), .val (.int ve2), .val (.int ve3), .val (.int vw), .val (.int va), .val (.int vb), .val (.int vc), .val (.ref b78), .val (.int (own_home vh1)), .val (.int (own_fol (own_home vh1))), .val (.int (0 : Int32)), .val (.int (own_home vh1)), .val (.int (own_fol (own_home vh1))), .val (.int vh1), .val (.int vb), .val (.int (own_home vh1))] [(.int (own_home vh1)), (.ref b78)])) rfl (by rw [hml]; rfl) (Steps.refl _) (argsL := [(.int (own_home vh1))]) (rest := []) (lenOf own_pd1 rfl) rfl (by show 2 * 0 + _ ≤ _; exact Nat.le_of_eq rfl) (hb hby at_196) (fun _ _ => ⟨rfl, e103, (by decide : 2 + 0 ≤ _), (by decide : 19 + 0 ≤ _)⟩)
      dsimp only [Pt.U, Pt.locs, Pt.cells, Pt.slots] at X104 l104 y104 z104 st104 hQ104
      subst l104 y104 z104
      obtain ⟨rfl, N104q, e104⟩ := hQ104
      have N104 := Fr.app N103 N104q
      refine OGo.on (fun t k => st104.trans k) ?_
      show OGo p e below s _ _ _ (T104.setTop (mkF m 199 #[.val (.int vh1), .val (.int vh1), .val (.int ve1), .val (.int ve2), .val (.int ve3), .val (.int vw), .val (.int va), .val (.int vb), .val (.int vc), .val (.ref b78), .val (.int (own_home vh1)), .val (.int (own_fol (own_home vh1))), .val (.int (0 : Int32)), .val (.int (own_home vh1)), .val (.int (own_fol (own_home vh1))), .val (.int vh1), .val (.int vb), .val (.int (own_home vh1))] [(.int (own_entry (own_val vh1 vc)))]))
      refine OGo.on (fun t k => XS.iload X104.here hx rfl (hb hby at_199) rfl k) ?_
      show OGo p e below s _ _ _ (T104.setTop (mkF m 201 #[.val (.int vh1), .val (.int vh1), .val (.int ve1), .val (.int ve2), .val (.int ve3), .val (.int vw), .val (.int va), .val (.int vb), .val (.int vc), .val (.ref b78), .val (.int (own_home vh1)), .val (.int (own_fol (own_home vh1))), .val (.int (0 : Int32)), .val (.int (own_home vh1)), .val (.int (own_fol (own_home vh1))), .val (.int vh1), .val (.int vb), .val (.int (own_home vh1))] [(.int vc), (.int (own_entry (own_val vh1 vc)))]))
      refine OGo.on (fun t k => XS.icmpNo X104.here hx rfl (hb hby at_201) rfl (teq (own_ev hvc)).2 k) ?_
      show OGo p e below s _ _ _ (T104.setTop (mkF m 204 #[.val (.int vh1), .val (.int vh1), .val (.int ve1), .val (.int ve2), .val (.int ve3), .val (.int vw), .val (.int va), .val (.int vb), .val (.int vc), .val (.ref b78), .val (.int (own_home vh1)), .val (.int (own_fol (own_home vh1))), .val (.int (0 : Int32)), .val (.int (own_home vh1)), .val (.int (own_fol (own_home vh1))), .val (.int vh1), .val (.int vb), .val (.int (own_home vh1))] []))
      refine OGo.on (fun t k => XS.aload X104.here hx rfl (hb hby at_204) rfl rfl k) ?_
      show OGo p e below s _ _ _ (T104.setTop (mkF m 206 #[.val (.int vh1), .val (.int vh1), .val (.int ve1), .val (.int ve2), .val (.int ve3), .val (.int vw), .val (.int va), .val (.int vb), .val (.int vc), .val (.ref b78), .val (.int (own_home vh1)), .val (.int (own_fol (own_home vh1))), .val (.int (0 : Int32)), .val (.int (own_home vh1)), .val (.int (own_fol (own_home vh1))), .val (.int vh1), .val (.int vb), .val (.int (own_home vh1))] [(.ref b78)]))
      refine OGo.on (fun t k => XS.iload X104.here hx rfl (hb hby at_206) rfl k) ?_
      show OGo p e below s _ _ _ (T104.setTop (mkF m 208 #[.val (.int vh1), .val (.int vh1), .val (.int ve1), .val (.int ve2), .val (.int ve3), .val (.int vw), .val (.int va), .val (.int vb), .val (.int vc), .val (.ref b78), .val (.int (own_home vh1)), .val (.int (own_fol (own_home vh1))), .val (.int (0 : Int32)), .val (.int (own_home vh1)), .val (.int (own_fol (own_home vh1))), .val (.int vh1), .val (.int vb), .val (.int (own_home vh1))] [(.int (own_fol (own_home vh1))), (.ref b78)]))
      obtain ⟨cq105, kq105, q105a, q105b, q105c⟩ := isOf hZ e104 f98
      obtain ⟨_, _, ⟨T105, L105, k105, n105⟩, -, X105, ⟨Lc105, hQ105, l105, y105, z105⟩, st105⟩ := X104.virtualBack hx (y := (⟨"com/example/metrilog/metrilog/Slots", "entry", "(I)I"⟩ : MethodName)) (z := (⟨"com/example/metrilog/metrilog/Slots", "entry", "(I)I"⟩ : MethodName)) hown (mvT hZ (hw _ (List.mem_of_getElem? (i := 52) rfl))) (mvT hZ (hw _ (List.mem_of_getElem? (i := 53) rfl))) (notFace_of_selects (args := #[]) (mvT hZ (hw _ (List.mem_of_getElem? (i := 55) rfl)))) (mvT hZ (hw _ (List.mem_of_getElem? (i := 55) rfl))) (mvT hZ (hw _ (List.mem_of_getElem? (i := 54) rfl))) (by decide) (backOf (W := 0) (own_mentry l Z a0 hw [] b78 rb ((([(0 : Int64), 0, 0, 0, 0, 0, 0, 0, 0, 0, 0, 0, 0, 0, 0, 0].set (own_home vh1).toNatClampNeg (own_val vh1 va)).set (own_fol (own_home vh1)).toNatClampNeg (own_val vh1 vb)).set (own_home vh1).toNatClampNeg (own_val vh1 vc)) (own_fol (own_home vh1)) (own_val vh1 vb) T97.heap n0 Z102 f99 Ar97 (own_len (own_len (own_len rfl))) (own_other (own_same (in_fol (in_home vh1)) (own_len rfl)) (in_home vh1) (in_fol (in_home vh1)) (Ne.symm (fol_ne (in_home vh1))))) hZ (hw _ (List.mem_of_getElem? (i := 56) rfl)) (hw _ (List.mem_of_getElem? (i := 3) rfl)) (by decide) (by decide)) q105a q105c (g := (mkF m 208 #[.val (.int vh1), .val (.int vh1), .val (.int ve1), .val (.int ve2), .val (.int ve3), .val (.int vw), .val (.int va), .val (.int vb), .val (.int vc), .val (.ref b78), .val (.int (own_home vh1)), .val (.int (own_fol (own_home vh1))), .val (.int (0 : Int32)), .val (.int (own_home vh1)), .val (.int (own_fol (own_home vh1))), .val (.int vh1), .val (.int vb), .val (.int (own_home vh1))] [(.int (own_fol (own_home vh1))), (.ref b78)])) rfl (by rw [hml]; rfl) (Steps.refl _) (argsL := [(.int (own_fol (own_home vh1)))]) (rest := []) (lenOf own_pd1 rfl) rfl (by show 2 * 0 + _ ≤ _; exact Nat.le_of_eq rfl) (hb hby at_208) (fun _ _ => ⟨rfl, e104, (by decide : 2 + 0 ≤ _), (by decide : 19 + 0 ≤ _)⟩)
      dsimp only [Pt.U, Pt.locs, Pt.cells, Pt.slots] at X105 l105 y105 z105 st105 hQ105
      subst l105 y105 z105
      obtain ⟨rfl, N105q, e105⟩ := hQ105
      have N105 := Fr.app N104 N105q
      refine OGo.on (fun t k => st105.trans k) ?_
      show OGo p e below s _ _ _ (T105.setTop (mkF m 211 #[.val (.int vh1), .val (.int vh1), .val (.int ve1), .val (.int ve2), .val (.int ve3), .val (.int vw), .val (.int va), .val (.int vb), .val (.int vc), .val (.ref b78), .val (.int (own_home vh1)), .val (.int (own_fol (own_home vh1))), .val (.int (0 : Int32)), .val (.int (own_home vh1)), .val (.int (own_fol (own_home vh1))), .val (.int vh1), .val (.int vb), .val (.int (own_home vh1))] [(.int (own_entry (own_val vh1 vb)))]))
      refine OGo.on (fun t k => XS.iload X105.here hx rfl (hb hby at_211) rfl k) ?_
      show OGo p e below s _ _ _ (T105.setTop (mkF m 213 #[.val (.int vh1), .val (.int vh1), .val (.int ve1), .val (.int ve2), .val (.int ve3), .val (.int vw), .val (.int va), .val (.int vb), .val (.int vc), .val (.ref b78), .val (.int (own_home vh1)), .val (.int (own_fol (own_home vh1))), .val (.int (0 : Int32)), .val (.int (own_home vh1)), .val (.int (own_fol (own_home vh1))), .val (.int vh1), .val (.int vb), .val (.int (own_home vh1))] [(.int vb), (.int (own_entry (own_val vh1 vb)))]))
      refine OGo.on (fun t k => XS.icmpNo X105.here hx rfl (hb hby at_213) rfl (teq (own_ev hvb)).2 k) ?_
      show OGo p e below s _ _ _ (T105.setTop (mkF m 216 #[.val (.int vh1), .val (.int vh1), .val (.int ve1), .val (.int ve2), .val (.int ve3), .val (.int vw), .val (.int va), .val (.int vb), .val (.int vc), .val (.ref b78), .val (.int (own_home vh1)), .val (.int (own_fol (own_home vh1))), .val (.int (0 : Int32)), .val (.int (own_home vh1)), .val (.int (own_fol (own_home vh1))), .val (.int vh1), .val (.int vb), .val (.int (own_home vh1))] []))
      refine OGo.on (fun t k => XS.iconst X105.here hx rfl (hb hby at_216) k) ?_
      show OGo p e below s _ _ _ (T105.setTop (mkF m 217 #[.val (.int vh1), .val (.int vh1), .val (.int ve1), .val (.int ve2), .val (.int ve3), .val (.int vw), .val (.int va), .val (.int vb), .val (.int vc), .val (.ref b78), .val (.int (own_home vh1)), .val (.int (own_fol (own_home vh1))), .val (.int (0 : Int32)), .val (.int (own_home vh1)), .val (.int (own_fol (own_home vh1))), .val (.int vh1), .val (.int vb), .val (.int (own_home vh1))] [(.int (1 : Int32))]))
      refine OGo.on (fun t k => XS.goto X105.here hx rfl (pc0 := 217) (pc' := 221) rfl (hb hby at_217) (by decide) (by decide) k) ?_
      show OGo p e below s _ _ _ (T105.setTop (mkF m 221 #[.val (.int vh1), .val (.int vh1), .val (.int ve1), .val (.int ve2), .val (.int ve3), .val (.int vw), .val (.int va), .val (.int vb), .val (.int vc), .val (.ref b78), .val (.int (own_home vh1)), .val (.int (own_fol (own_home vh1))), .val (.int (0 : Int32)), .val (.int (own_home vh1)), .val (.int (own_fol (own_home vh1))), .val (.int vh1), .val (.int vb), .val (.int (own_home vh1))] [(.int (1 : Int32))]))
      exact OGo.retN X105 hx (t := .boolean) hret hlk (by simp) (hb hby at_221) ⟨rfl, N105⟩ (by decide) (by decide)
    · refine OGo.on (fun t k => XS.ifNo X93.here hx rfl (hb hby at_85) rfl ((if0 _ _).trans (feq hc96).1) k) ?_
      show OGo p e below s _ _ _ (T93.setTop (mkF m 88 #[.val (.int vh1), .val (.int vh1), .val (.int ve1), .val (.int ve2), .val (.int ve3), .val (.int vw), .val (.int va), .val (.int vb), .val (.int vc), .val (.ref b78), .val (.int (own_home vh1)), .val (.int (own_fol (own_home vh1))), .unset, .unset, .unset, .unset, .unset, .unset] []))
      refine OGo.on (fun t k => XS.iconst X93.here hx rfl (hb hby at_88) k) ?_
      show OGo p e below s _ _ _ (T93.setTop (mkF m 89 #[.val (.int vh1), .val (.int vh1), .val (.int ve1), .val (.int ve2), .val (.int ve3), .val (.int vw), .val (.int va), .val (.int vb), .val (.int vc), .val (.ref b78), .val (.int (own_home vh1)), .val (.int (own_fol (own_home vh1))), .unset, .unset, .unset, .unset, .unset, .unset] [(.int (1 : Int32))]))
      refine OGo.on (fun t k => XS.goto X93.here hx rfl (pc0 := 89) (pc' := 93) rfl (hb hby at_89) (by decide) (by decide) k) ?_
      show OGo p e below s _ _ _ (T93.setTop (mkF m 93 #[.val (.int vh1), .val (.int vh1), .val (.int ve1), .val (.int ve2), .val (.int ve3), .val (.int vw), .val (.int va), .val (.int vb), .val (.int vc), .val (.ref b78), .val (.int (own_home vh1)), .val (.int (own_fol (own_home vh1))), .unset, .unset, .unset, .unset, .unset, .unset] [(.int (1 : Int32))]))
      refine OGo.on (fun t k => XS.istore X93.here hx rfl (hb hby at_93) rfl (l' := #[.val (.int vh1), .val (.int vh1), .val (.int ve1), .val (.int ve2), .val (.int ve3), .val (.int vw), .val (.int va), .val (.int vb), .val (.int vc), .val (.ref b78), .val (.int (own_home vh1)), .val (.int (own_fol (own_home vh1))), .val (.int (1 : Int32)), .unset, .unset, .unset, .unset, .unset]) rfl k) ?_
      show OGo p e below s _ _ _ (T93.setTop (mkF m 95 #[.val (.int vh1), .val (.int vh1), .val (.int ve1), .val (.int ve2), .val (.int ve3), .val (.int vw), .val (.int va), .val (.int vb), .val (.int vc), .val (.ref b78), .val (.int (own_home vh1)), .val (.int (own_fol (own_home vh1))), .val (.int (1 : Int32)), .unset, .unset, .unset, .unset, .unset] []))
      refine OGo.on (fun t k => XS.iload X93.here hx rfl (hb hby at_95) rfl k) ?_
      show OGo p e below s _ _ _ (T93.setTop (mkF m 97 #[.val (.int vh1), .val (.int vh1), .val (.int ve1), .val (.int ve2), .val (.int ve3), .val (.int vw), .val (.int va), .val (.int vb), .val (.int vc), .val (.ref b78), .val (.int (own_home vh1)), .val (.int (own_fol (own_home vh1))), .val (.int (1 : Int32)), .unset, .unset, .unset, .unset, .unset] [(.int (1 : Int32))]))
      refine OGo.on (fun t k => XS.ifNo X93.here hx rfl (hb hby at_97) rfl ((if0 _ _).trans (feq (by decide)).1) k) ?_
      show OGo p e below s _ _ _ (T93.setTop (mkF m 100 #[.val (.int vh1), .val (.int vh1), .val (.int ve1), .val (.int ve2), .val (.int ve3), .val (.int vw), .val (.int va), .val (.int vb), .val (.int vc), .val (.ref b78), .val (.int (own_home vh1)), .val (.int (own_fol (own_home vh1))), .val (.int (1 : Int32)), .unset, .unset, .unset, .unset, .unset] []))
      refine OGo.on (fun t k => XS.iload X93.here hx rfl (hb hby at_100) rfl k) ?_
      show OGo p e below s _ _ _ (T93.setTop (mkF m 102 #[.val (.int vh1), .val (.int vh1), .val (.int ve1), .val (.int ve2), .val (.int ve3), .val (.int vw), .val (.int va), .val (.int vb), .val (.int vc), .val (.ref b78), .val (.int (own_home vh1)), .val (.int (own_fol (own_home vh1))), .val (.int (1 : Int32)), .unset, .unset, .unset, .unset, .unset] [(.int (own_fol (own_home vh1)))]))
      refine OGo.on (fun t k => XS.goto X93.here hx rfl (pc0 := 102) (pc' := 107) rfl (hb hby at_102) (by decide) (by decide) k) ?_
      show OGo p e below s _ _ _ (T93.setTop (mkF m 107 #[.val (.int vh1), .val (.int vh1), .val (.int ve1), .val (.int ve2), .val (.int ve3), .val (.int vw), .val (.int va), .val (.int vb), .val (.int vc), .val (.ref b78), .val (.int (own_home vh1)), .val (.int (own_fol (own_home vh1))), .val (.int (1 : Int32)), .unset, .unset, .unset, .unset, .unset] [(.int (own_fol (own_home vh1)))]))
      refine OGo.on (fun t k => XS.istore X93.here hx rfl (hb hby at_107) rfl (l' := #[.val (.int vh1), .val (.int vh1), .val (.int ve1), .val (.int ve2), .val (.int ve3), .val (.int vw), .val (.int va), .val (.int vb), .val (.int vc), .val (.ref b78), .val (.int (own_home vh1)), .val (.int (own_fol (own_home vh1))), .val (.int (1 : Int32)), .val (.int (own_fol (own_home vh1))), .unset, .unset, .unset, .unset]) rfl k) ?_
      show OGo p e below s _ _ _ (T93.setTop (mkF m 109 #[.val (.int vh1), .val (.int vh1), .val (.int ve1), .val (.int ve2), .val (.int ve3), .val (.int vw), .val (.int va), .val (.int vb), .val (.int vc), .val (.ref b78), .val (.int (own_home vh1)), .val (.int (own_fol (own_home vh1))), .val (.int (1 : Int32)), .val (.int (own_fol (own_home vh1))), .unset, .unset, .unset, .unset] []))
      refine OGo.on (fun t k => XS.iload X93.here hx rfl (hb hby at_109) rfl k) ?_
      show OGo p e below s _ _ _ (T93.setTop (mkF m 111 #[.val (.int vh1), .val (.int vh1), .val (.int ve1), .val (.int ve2), .val (.int ve3), .val (.int vw), .val (.int va), .val (.int vb), .val (.int vc), .val (.ref b78), .val (.int (own_home vh1)), .val (.int (own_fol (own_home vh1))), .val (.int (1 : Int32)), .val (.int (own_fol (own_home vh1))), .unset, .unset, .unset, .unset] [(.int (1 : Int32))]))
      refine OGo.on (fun t k => XS.ifNo X93.here hx rfl (hb hby at_111) rfl ((if0 _ _).trans (feq (by decide)).1) k) ?_
      show OGo p e below s _ _ _ (T93.setTop (mkF m 114 #[.val (.int vh1), .val (.int vh1), .val (.int ve1), .val (.int ve2), .val (.int ve3), .val (.int vw), .val (.int va), .val (.int vb), .val (.int vc), .val (.ref b78), .val (.int (own_home vh1)), .val (.int (own_fol (own_home vh1))), .val (.int (1 : Int32)), .val (.int (own_fol (own_home vh1))), .unset, .unset, .unset, .unset] []))
      refine OGo.on (fun t k => XS.iload X93.here hx rfl (hb hby at_114) rfl k) ?_
      show OGo p e below s _ _ _ (T93.setTop (mkF m 116 #[.val (.int vh1), .val (.int vh1), .val (.int ve1), .val (.int ve2), .val (.int ve3), .val (.int vw), .val (.int va), .val (.int vb), .val (.int vc), .val (.ref b78), .val (.int (own_home vh1)), .val (.int (own_fol (own_home vh1))), .val (.int (1 : Int32)), .val (.int (own_fol (own_home vh1))), .unset, .unset, .unset, .unset] [(.int (own_home vh1))]))
      refine OGo.on (fun t k => XS.goto X93.here hx rfl (pc0 := 116) (pc' := 121) rfl (hb hby at_116) (by decide) (by decide) k) ?_
      show OGo p e below s _ _ _ (T93.setTop (mkF m 121 #[.val (.int vh1), .val (.int vh1), .val (.int ve1), .val (.int ve2), .val (.int ve3), .val (.int vw), .val (.int va), .val (.int vb), .val (.int vc), .val (.ref b78), .val (.int (own_home vh1)), .val (.int (own_fol (own_home vh1))), .val (.int (1 : Int32)), .val (.int (own_fol (own_home vh1))), .unset, .unset, .unset, .unset] [(.int (own_home vh1))]))
      refine OGo.on (fun t k => XS.istore X93.here hx rfl (hb hby at_121) rfl (l' := #[.val (.int vh1), .val (.int vh1), .val (.int ve1), .val (.int ve2), .val (.int ve3), .val (.int vw), .val (.int va), .val (.int vb), .val (.int vc), .val (.ref b78), .val (.int (own_home vh1)), .val (.int (own_fol (own_home vh1))), .val (.int (1 : Int32)), .val (.int (own_fol (own_home vh1))), .val (.int (own_home vh1)), .unset, .unset, .unset]) rfl k) ?_
      show OGo p e below s _ _ _ (T93.setTop (mkF m 123 #[.val (.int vh1), .val (.int vh1), .val (.int ve1), .val (.int ve2), .val (.int ve3), .val (.int vw), .val (.int va), .val (.int vb), .val (.int vc), .val (.ref b78), .val (.int (own_home vh1)), .val (.int (own_fol (own_home vh1))), .val (.int (1 : Int32)), .val (.int (own_fol (own_home vh1))), .val (.int (own_home vh1)), .unset, .unset, .unset] []))
      refine OGo.on (fun t k => XS.iload X93.here hx rfl (hb hby at_123) rfl k) ?_
      show OGo p e below s _ _ _ (T93.setTop (mkF m 125 #[.val (.int vh1), .val (.int vh1), .val (.int ve1), .val (.int ve2), .val (.int ve3), .val (.int vw), .val (.int va), .val (.int vb), .val (.int vc), .val (.ref b78), .val (.int (own_home vh1)), .val (.int (own_fol (own_home vh1))), .val (.int (1 : Int32)), .val (.int (own_fol (own_home vh1))), .val (.int (own_home vh1)), .unset, .unset, .unset] [(.int (1 : Int32))]))
      refine OGo.on (fun t k => XS.ifNo X93.here hx rfl (hb hby at_125) rfl ((if0 _ _).trans (feq (by decide)).1) k) ?_
      show OGo p e below s _ _ _ (T93.setTop (mkF m 128 #[.val (.int vh1), .val (.int vh1), .val (.int ve1), .val (.int ve2), .val (.int ve3), .val (.int vw), .val (.int va), .val (.int vb), .val (.int vc), .val (.ref b78), .val (.int (own_home vh1)), .val (.int (own_fol (own_home vh1))), .val (.int (1 : Int32)), .val (.int (own_fol (own_home vh1))), .val (.int (own_home vh1)), .unset, .unset, .unset] []))
      refine OGo.on (fun t k => XS.iloadN X93.here hx rfl (hb hby at_128) rfl k) ?_
      show OGo p e below s _ _ _ (T93.setTop (mkF m 129 #[.val (.int vh1), .val (.int vh1), .val (.int ve1), .val (.int ve2), .val (.int ve3), .val (.int vw), .val (.int va), .val (.int vb), .val (.int vc), .val (.ref b78), .val (.int (own_home vh1)), .val (.int (own_fol (own_home vh1))), .val (.int (1 : Int32)), .val (.int (own_fol (own_home vh1))), .val (.int (own_home vh1)), .unset, .unset, .unset] [(.int vh1)]))
      refine OGo.on (fun t k => XS.goto X93.here hx rfl (pc0 := 129) (pc' := 133) rfl (hb hby at_129) (by decide) (by decide) k) ?_
      show OGo p e below s _ _ _ (T93.setTop (mkF m 133 #[.val (.int vh1), .val (.int vh1), .val (.int ve1), .val (.int ve2), .val (.int ve3), .val (.int vw), .val (.int va), .val (.int vb), .val (.int vc), .val (.ref b78), .val (.int (own_home vh1)), .val (.int (own_fol (own_home vh1))), .val (.int (1 : Int32)), .val (.int (own_fol (own_home vh1))), .val (.int (own_home vh1)), .unset, .unset, .unset] [(.int vh1)]))
      refine OGo.on (fun t k => XS.istore X93.here hx rfl (hb hby at_133) rfl (l' := #[.val (.int vh1), .val (.int vh1), .val (.int ve1), .val (.int ve2), .val (.int ve3), .val (.int vw), .val (.int va), .val (.int vb), .val (.int vc), .val (.ref b78), .val (.int (own_home vh1)), .val (.int (own_fol (own_home vh1))), .val (.int (1 : Int32)), .val (.int (own_fol (own_home vh1))), .val (.int (own_home vh1)), .val (.int vh1), .unset, .unset]) rfl k) ?_
      show OGo p e below s _ _ _ (T93.setTop (mkF m 135 #[.val (.int vh1), .val (.int vh1), .val (.int ve1), .val (.int ve2), .val (.int ve3), .val (.int vw), .val (.int va), .val (.int vb), .val (.int vc), .val (.ref b78), .val (.int (own_home vh1)), .val (.int (own_fol (own_home vh1))), .val (.int (1 : Int32)), .val (.int (own_fol (own_home vh1))), .val (.int (own_home vh1)), .val (.int vh1), .unset, .unset] []))
      refine OGo.on (fun t k => XS.iload X93.here hx rfl (hb hby at_135) rfl k) ?_
      show OGo p e below s _ _ _ (T93.setTop (mkF m 137 #[.val (.int vh1), .val (.int vh1), .val (.int ve1), .val (.int ve2), .val (.int ve3), .val (.int vw), .val (.int va), .val (.int vb), .val (.int vc), .val (.ref b78), .val (.int (own_home vh1)), .val (.int (own_fol (own_home vh1))), .val (.int (1 : Int32)), .val (.int (own_fol (own_home vh1))), .val (.int (own_home vh1)), .val (.int vh1), .unset, .unset] [(.int (1 : Int32))]))
      refine OGo.on (fun t k => XS.ifNo X93.here hx rfl (hb hby at_137) rfl ((if0 _ _).trans (feq (by decide)).1) k) ?_
      show OGo p e below s _ _ _ (T93.setTop (mkF m 140 #[.val (.int vh1), .val (.int vh1), .val (.int ve1), .val (.int ve2), .val (.int ve3), .val (.int vw), .val (.int va), .val (.int vb), .val (.int vc), .val (.ref b78), .val (.int (own_home vh1)), .val (.int (own_fol (own_home vh1))), .val (.int (1 : Int32)), .val (.int (own_fol (own_home vh1))), .val (.int (own_home vh1)), .val (.int vh1), .unset, .unset] []))
      refine OGo.on (fun t k => XS.iload X93.here hx rfl (hb hby at_140) rfl k) ?_
      show OGo p e below s _ _ _ (T93.setTop (mkF m 142 #[.val (.int vh1), .val (.int vh1), .val (.int ve1), .val (.int ve2), .val (.int ve3), .val (.int vw), .val (.int va), .val (.int vb), .val (.int vc), .val (.ref b78), .val (.int (own_home vh1)), .val (.int (own_fol (own_home vh1))), .val (.int (1 : Int32)), .val (.int (own_fol (own_home vh1))), .val (.int (own_home vh1)), .val (.int vh1), .unset, .unset] [(.int va)]))
      refine OGo.on (fun t k => XS.goto X93.here hx rfl (pc0 := 142) (pc' := 147) rfl (hb hby at_142) (by decide) (by decide) k) ?_
      show OGo p e below s _ _ _ (T93.setTop (mkF m 147 #[.val (.int vh1), .val (.int vh1), .val (.int ve1), .val (.int ve2), .val (.int ve3), .val (.int vw), .val (.int va), .val (.int vb), .val (.int vc), .val (.ref b78), .val (.int (own_home vh1)), .val (.int (own_fol (own_home vh1))), .val (.int (1 : Int32)), .val (.int (own_fol (own_home vh1))), .val (.int (own_home vh1)), .val (.int vh1), .unset, .unset] [(.int va)]))
      refine OGo.on (fun t k => XS.istore X93.here hx rfl (hb hby at_147) rfl (l' := #[.val (.int vh1), .val (.int vh1), .val (.int ve1), .val (.int ve2), .val (.int ve3), .val (.int vw), .val (.int va), .val (.int vb), .val (.int vc), .val (.ref b78), .val (.int (own_home vh1)), .val (.int (own_fol (own_home vh1))), .val (.int (1 : Int32)), .val (.int (own_fol (own_home vh1))), .val (.int (own_home vh1)), .val (.int vh1), .val (.int va), .unset]) rfl k) ?_
      show OGo p e below s _ _ _ (T93.setTop (mkF m 149 #[.val (.int vh1), .val (.int vh1), .val (.int ve1), .val (.int ve2), .val (.int ve3), .val (.int vw), .val (.int va), .val (.int vb), .val (.int vc), .val (.ref b78), .val (.int (own_home vh1)), .val (.int (own_fol (own_home vh1))), .val (.int (1 : Int32)), .val (.int (own_fol (own_home vh1))), .val (.int (own_home vh1)), .val (.int vh1), .val (.int va), .unset] []))
      refine OGo.on (fun t k => XS.aload X93.here hx rfl (hb hby at_149) rfl rfl k) ?_
      show OGo p e below s _ _ _ (T93.setTop (mkF m 151 #[.val (.int vh1), .val (.int vh1), .val (.int ve1), .val (.int ve2), .val (.int ve3), .val (.int vw), .val (.int va), .val (.int vb), .val (.int vc), .val (.ref b78), .val (.int (own_home vh1)), .val (.int (own_fol (own_home vh1))), .val (.int (1 : Int32)), .val (.int (own_fol (own_home vh1))), .val (.int (own_home vh1)), .val (.int vh1), .val (.int va), .unset] [(.ref b78)]))
      refine OGo.on (fun t k => XS.iload X93.here hx rfl (hb hby at_151) rfl k) ?_
      show OGo p e below s _ _ _ (T93.setTop (mkF m 153 #[.val (.int vh1), .val (.int vh1), .val (.int ve1), .val (.int ve2), .val (.int ve3), .val (.int vw), .val (.int va), .val (.int vb), .val (.int vc), .val (.ref b78), .val (.int (own_home vh1)), .val (.int (own_fol (own_home vh1))), .val (.int (1 : Int32)), .val (.int (own_fol (own_home vh1))), .val (.int (own_home vh1)), .val (.int vh1), .val (.int va), .unset] [(.int (own_fol (own_home vh1))), (.ref b78)]))
      refine OGo.on (fun t k => XS.iload X93.here hx rfl (hb hby at_153) rfl k) ?_
      show OGo p e below s _ _ _ (T93.setTop (mkF m 155 #[.val (.int vh1), .val (.int vh1), .val (.int ve1), .val (.int ve2), .val (.int ve3), .val (.int vw), .val (.int va), .val (.int vb), .val (.int vc), .val (.ref b78), .val (.int (own_home vh1)), .val (.int (own_fol (own_home vh1))), .val (.int (1 : Int32)), .val (.int (own_fol (own_home vh1))), .val (.int (own_home vh1)), .val (.int vh1), .val (.int va), .unset] [(.int vc), (.int (own_fol (own_home vh1))), (.ref b78)]))
      obtain ⟨cq106, kq106, q106a, q106b, q106c⟩ := isOf hZ rfl f94
      obtain ⟨_, _, ⟨T106, L106, k106, n106⟩, -, X106, ⟨Lc106, hQ106, l106, y106, z106⟩, st106⟩ := X93.virtualBack hx (y := (⟨"com/example/metrilog/metrilog/Slots", "replace", "(II)V"⟩ : MethodName)) (z := (⟨"com/example/metrilog/metrilog/Slots", "replace", "(II)V"⟩ : MethodName)) hown (mvT hZ (hw _ (List.mem_of_getElem? (i := 46) rfl))) (mvT hZ (hw _ (List.mem_of_getElem? (i := 47) rfl))) (notFace_of_selects (args := #[]) (mvT hZ (hw _ (List.mem_of_getElem? (i := 49) rfl)))) (mvT hZ (hw _ (List.mem_of_getElem? (i := 49) rfl))) (mvT hZ (hw _ (List.mem_of_getElem? (i := 48) rfl))) (by decide) (backOf (W := 0) (own_mrep l Z a0 hw [] b78 rb (([(0 : Int64), 0, 0, 0, 0, 0, 0, 0, 0, 0, 0, 0, 0, 0, 0, 0].set (own_home vh1).toNatClampNeg (own_val vh1 va)).set (own_fol (own_home vh1)).toNatClampNeg (own_val vh1 vb)) (own_fol (own_home vh1)) vc (own_val vh1 vb) T93.heap n0 Z95 g_rb hab Fs93 Ar93 (own_len (own_len rfl)) (in_fol (in_home vh1)) (own_same (in_fol (in_home vh1)) (own_len rfl))) hZ (hw _ (List.mem_of_getElem? (i := 50) rfl)) (hw _ (List.mem_of_getElem? (i := 3) rfl)) (by decide) (by decide)) q106a q106c (g := (mkF m 155 #[.val (.int vh1), .val (.int vh1), .val (.int ve1), .val (.int ve2), .val (.int ve3), .val (.int vw), .val (.int va), .val (.int vb), .val (.int vc), .val (.ref b78), .val (.int (own_home vh1)), .val (.int (own_fol (own_home vh1))), .val (.int (1 : Int32)), .val (.int (own_fol (own_home vh1))), .val (.int (own_home vh1)), .val (.int vh1), .val (.int va), .unset] [(.int vc), (.int (own_fol (own_home vh1))), (.ref b78)])) rfl (by rw [hml]; rfl) (Steps.refl _) (argsL := [(.int (own_fol (own_home vh1))), (.int vc)]) (rest := []) (lenOf own_pd5 rfl) rfl (by show 2 * 0 + _ ≤ _; exact Nat.le_of_eq rfl) (hb hby at_155) (fun _ _ => ⟨rfl, rfl, (by decide : 2 + 0 ≤ _), (by decide : 19 + 0 ≤ _)⟩)
      dsimp only [Pt.U, Pt.locs, Pt.cells, Pt.slots] at X106 l106 y106 z106 st106 hQ106
      subst l106 y106 z106
      obtain ⟨rfl, N106q, K106, Ar106⟩ := hQ106
      have N106 := Fr.app N93 N106q
      rw [own_rv hvb hvc] at Ar106
      have f107 : Exa Z T106.heap b78 "com/example/metrilog/metrilog/Slots" := f94.keep K106
      have f108 : Fld Z T106.heap b78 "com/example/metrilog/metrilog/Slots" "slots" "[J" (.ref rb) := Fs93.keep K106 (own_nm1 hab)
      have f109 : Fld Z T106.heap b78 "com/example/metrilog/metrilog/Slots" "shift" "I" (.int (28 : Int32)) := Fh93.keep K106 (own_nm1 hab)
      have f110 : Fld Z T106.heap b78 "com/example/metrilog/metrilog/Slots" "filled" "I" (.int (2 : Int32)) := Fg93.keep K106 (own_nm1 hab)
      have Z111 : n0 ≤ T106.heap.size := Nat.le_trans Z95 K106.1
      refine OGo.on (fun t k => st106.trans k) ?_
      show OGo p e below s _ _ _ (T106.setTop (mkF m 158 #[.val (.int vh1), .val (.int vh1), .val (.int ve1), .val (.int ve2), .val (.int ve3), .val (.int vw), .val (.int va), .val (.int vb), .val (.int vc), .val (.ref b78), .val (.int (own_home vh1)), .val (.int (own_fol (own_home vh1))), .val (.int (1 : Int32)), .val (.int (own_fol (own_home vh1))), .val (.int (own_home vh1)), .val (.int vh1), .val (.int va), .unset] []))
      refine OGo.on (fun t k => XS.aload X106.here hx rfl (hb hby at_158) rfl rfl k) ?_
      show OGo p e below s _ _ _ (T106.setTop (mkF m 160 #[.val (.int vh1), .val (.int vh1), .val (.int ve1), .val (.int ve2), .val (.int ve3), .val (.int vw), .val (.int va), .val (.int vb), .val (.int vc), .val (.ref b78), .val (.int (own_home vh1)), .val (.int (own_fol (own_home vh1))), .val (.int (1 : Int32)), .val (.int (own_fol (own_home vh1))), .val (.int (own_home vh1)), .val (.int vh1), .val (.int va), .unset] [(.ref b78)]))
      refine OGo.on (fun t k => XS.iload X106.here hx rfl (hb hby at_160) rfl k) ?_
      show OGo p e below s _ _ _ (T106.setTop (mkF m 162 #[.val (.int vh1), .val (.int vh1), .val (.int ve1), .val (.int ve2), .val (.int ve3), .val (.int vw), .val (.int va), .val (.int vb), .val (.int vc), .val (.ref b78), .val (.int (own_home vh1)), .val (.int (own_fol (own_home vh1))), .val (.int (1 : Int32)), .val (.int (own_fol (own_home vh1))), .val (.int (own_home vh1)), .val (.int vh1), .val (.int va), .unset] [(.int vh1), (.ref b78)]))
      obtain ⟨cq112, kq112, q112a, q112b, q112c⟩ := isOf hZ rfl f107
      obtain ⟨_, _, ⟨T112, L112, k112, n112⟩, -, X112, ⟨Lc112, hQ112, l112, y112, z112⟩, st112⟩ := X106.virtualBack hx (y := (⟨"com/example/metrilog/metrilog/Slots", "first", "(I)I"⟩ : MethodName)) (z := (⟨"com/example/metrilog/metrilog/Slots", "first", "(I)I"⟩ : MethodName)) hown (mvT hZ (hw _ (List.mem_of_getElem? (i := 22) rfl))) (mvT hZ (hw _ (List.mem_of_getElem? (i := 23) rfl))) (notFace_of_selects (args := #[]) (mvT hZ (hw _ (List.mem_of_getElem? (i := 25) rfl)))) (mvT hZ (hw _ (List.mem_of_getElem? (i := 25) rfl))) (mvT hZ (hw _ (List.mem_of_getElem? (i := 24) rfl))) (by decide) (backOf (W := 0) (own_first0 l Z a0 hw [] b78 rb ((([(0 : Int64), 0, 0, 0, 0, 0, 0, 0, 0, 0, 0, 0, 0, 0, 0, 0].set (own_home vh1).toNatClampNeg (own_val vh1 va)).set (own_fol (own_home vh1)).toNatClampNeg (own_val vh1 vb)).set (own_fol (own_home vh1)).toNatClampNeg (own_val vh1 vc)) vh1 (own_val vh1 va) T106.heap n0 Z111 f107 f108 f109 Ar106 (own_len (own_len (own_len rfl))) (own_other (own_other (own_same (in_home vh1) rfl) (in_fol (in_home vh1)) (in_home vh1) (fol_ne (in_home vh1))) (in_fol (in_home vh1)) (in_home vh1) (fol_ne (in_home vh1))) (fun _ => own_hv hva)) hZ (hw _ (List.mem_of_getElem? (i := 26) rfl)) (hw _ (List.mem_of_getElem? (i := 3) rfl)) (by decide) (by decide)) q112a q112c (g := (mkF m 162 #[.val (.int vh1), .val (.int vh1), .val (.int ve1), .val (.int ve2), .val (.int ve3), .val (.int vw), .val (.int va), .val (.int vb), .val (.int vc), .val (.ref b78), .val (.int (own_home vh1)), .val (.int (own_fol (own_home vh1))), .val (.int (1 : Int32)), .val (.int (own_fol (own_home vh1))), .val (.int (own_home vh1)), .val (.int vh1), .val (.int va), .unset] [(.int vh1), (.ref b78)])) rfl (by rw [hml]; rfl) (Steps.refl _) (argsL := [(.int vh1)]) (rest := []) (lenOf own_pd1 rfl) rfl (by show 2 * 0 + _ ≤ _; exact Nat.le_of_eq rfl) (hb hby at_162) (fun _ _ => ⟨rfl, rfl, (by decide : 2 + 0 ≤ _), (by decide : 19 + 0 ≤ _)⟩)
      dsimp only [Pt.U, Pt.locs, Pt.cells, Pt.slots] at X112 l112 y112 z112 st112 hQ112
      subst l112 y112 z112
      obtain ⟨rfl, N112q, e112⟩ := hQ112
      have N112 := Fr.app N106 N112q
      refine OGo.on (fun t k => st112.trans k) ?_
      show OGo p e below s _ _ _ (T112.setTop (mkF m 165 #[.val (.int vh1), .val (.int vh1), .val (.int ve1), .val (.int ve2), .val (.int ve3), .val (.int vw), .val (.int va), .val (.int vb), .val (.int vc), .val (.ref b78), .val (.int (own_home vh1)), .val (.int (own_fol (own_home vh1))), .val (.int (1 : Int32)), .val (.int (own_fol (own_home vh1))), .val (.int (own_home vh1)), .val (.int vh1), .val (.int va), .unset] [(.int (own_home vh1))]))
      refine OGo.on (fun t k => XS.istore X112.here hx rfl (hb hby at_165) rfl (l' := #[.val (.int vh1), .val (.int vh1), .val (.int ve1), .val (.int ve2), .val (.int ve3), .val (.int vw), .val (.int va), .val (.int vb), .val (.int vc), .val (.ref b78), .val (.int (own_home vh1)), .val (.int (own_fol (own_home vh1))), .val (.int (1 : Int32)), .val (.int (own_fol (own_home vh1))), .val (.int (own_home vh1)), .val (.int vh1), .val (.int va), .val (.int (own_home vh1))]) rfl k) ?_
      show OGo p e below s _ _ _ (T112.setTop (mkF m 167 #[.val (.int vh1), .val (.int vh1), .val (.int ve1), .val (.int ve2), .val (.int ve3), .val (.int vw), .val (.int va), .val (.int vb), .val (.int vc), .val (.ref b78), .val (.int (own_home vh1)), .val (.int (own_fol (own_home vh1))), .val (.int (1 : Int32)), .val (.int (own_fol (own_home vh1))), .val (.int (own_home vh1)), .val (.int vh1), .val (.int va), .val (.int (own_home vh1))] []))
      refine OGo.on (fun t k => XS.iload X112.here hx rfl (hb hby at_167) rfl k) ?_
      show OGo p e below s _ _ _ (T112.setTop (mkF m 169 #[.val (.int vh1), .val (.int vh1), .val (.int ve1), .val (.int ve2), .val (.int ve3), .val (.int vw), .val (.int va), .val (.int vb), .val (.int vc), .val (.ref b78), .val (.int (own_home vh1)), .val (.int (own_fol (own_home vh1))), .val (.int (1 : Int32)), .val (.int (own_fol (own_home vh1))), .val (.int (own_home vh1)), .val (.int vh1), .val (.int va), .val (.int (own_home vh1))] [(.int (own_home vh1))]))
      refine OGo.on (fun t k => XS.iload X112.here hx rfl (hb hby at_169) rfl k) ?_
      show OGo p e below s _ _ _ (T112.setTop (mkF m 171 #[.val (.int vh1), .val (.int vh1), .val (.int ve1), .val (.int ve2), .val (.int ve3), .val (.int vw), .val (.int va), .val (.int vb), .val (.int vc), .val (.ref b78), .val (.int (own_home vh1)), .val (.int (own_fol (own_home vh1))), .val (.int (1 : Int32)), .val (.int (own_fol (own_home vh1))), .val (.int (own_home vh1)), .val (.int vh1), .val (.int va), .val (.int (own_home vh1))] [(.int (own_fol (own_home vh1))), (.int (own_home vh1))]))
      refine OGo.on (fun t k => XS.icmpNo X112.here hx rfl (hb hby at_171) rfl (feq (Ne.symm (fol_ne (in_home vh1)))).1 k) ?_
      show OGo p e below s _ _ _ (T112.setTop (mkF m 174 #[.val (.int vh1), .val (.int vh1), .val (.int ve1), .val (.int ve2), .val (.int ve3), .val (.int vw), .val (.int va), .val (.int vb), .val (.int vc), .val (.ref b78), .val (.int (own_home vh1)), .val (.int (own_fol (own_home vh1))), .val (.int (1 : Int32)), .val (.int (own_fol (own_home vh1))), .val (.int (own_home vh1)), .val (.int vh1), .val (.int va), .val (.int (own_home vh1))] []))
      refine OGo.on (fun t k => XS.aload X112.here hx rfl (hb hby at_174) rfl rfl k) ?_
      show OGo p e below s _ _ _ (T112.setTop (mkF m 176 #[.val (.int vh1), .val (.int vh1), .val (.int ve1), .val (.int ve2), .val (.int ve3), .val (.int vw), .val (.int va), .val (.int vb), .val (.int vc), .val (.ref b78), .val (.int (own_home vh1)), .val (.int (own_fol (own_home vh1))), .val (.int (1 : Int32)), .val (.int (own_fol (own_home vh1))), .val (.int (own_home vh1)), .val (.int vh1), .val (.int va), .val (.int (own_home vh1))] [(.ref b78)]))
      refine OGo.on (fun t k => XS.iload X112.here hx rfl (hb hby at_176) rfl k) ?_
      show OGo p e below s _ _ _ (T112.setTop (mkF m 178 #[.val (.int vh1), .val (.int vh1), .val (.int ve1), .val (.int ve2), .val (.int ve3), .val (.int vw), .val (.int va), .val (.int vb), .val (.int vc), .val (.ref b78), .val (.int (own_home vh1)), .val (.int (own_fol (own_home vh1))), .val (.int (1 : Int32)), .val (.int (own_fol (own_home vh1))), .val (.int (own_home vh1)), .val (.int vh1), .val (.int va), .val (.int (own_home vh1))] [(.int (own_home vh1)), (.ref b78)]))
      refine OGo.on (fun t k => XS.iload X112.here hx rfl (hb hby at_178) rfl k) ?_
      show OGo p e below s _ _ _ (T112.setTop (mkF m 180 #[.val (.int vh1), .val (.int vh1), .val (.int ve1), .val (.int ve2), .val (.int ve3), .val (.int vw), .val (.int va), .val (.int vb), .val (.int vc), .val (.ref b78), .val (.int (own_home vh1)), .val (.int (own_fol (own_home vh1))), .val (.int (1 : Int32)), .val (.int (own_fol (own_home vh1))), .val (.int (own_home vh1)), .val (.int vh1), .val (.int va), .val (.int (own_home vh1))] [(.int vh1), (.int (own_home vh1)), (.ref b78)]))
      obtain ⟨cq113, kq113, q113a, q113b, q113c⟩ := isOf hZ e112 f107
      obtain ⟨_, _, ⟨T113, L113, k113, n113⟩, -, X113, ⟨Lc113, hQ113, l113, y113, z113⟩, st113⟩ := X112.virtualBack hx (y := (⟨"com/example/metrilog/metrilog/Slots", "next", "(II)I"⟩ : MethodName)) (z := (⟨"com/example/metrilog/metrilog/Slots", "next", "(II)I"⟩ : MethodName)) hown (mvT hZ (hw _ (List.mem_of_getElem? (i := 61) rfl))) (mvT hZ (hw _ (List.mem_of_getElem? (i := 62) rfl))) (notFace_of_selects (args := #[]) (mvT hZ (hw _ (List.mem_of_getElem? (i := 64) rfl)))) (mvT hZ (hw _ (List.mem_of_getElem? (i := 64) rfl))) (mvT hZ (hw _ (List.mem_of_getElem? (i := 63) rfl))) (by decide) (backOf (W := 0) (own_mnext l Z a0 hw [] b78 rb ((([(0 : Int64), 0, 0, 0, 0, 0, 0, 0, 0, 0, 0, 0, 0, 0, 0, 0].set (own_home vh1).toNatClampNeg (own_val vh1 va)).set (own_fol (own_home vh1)).toNatClampNeg (own_val vh1 vb)).set (own_fol (own_home vh1)).toNatClampNeg (own_val vh1 vc)) (own_home vh1) vh1 (own_val vh1 vc) T106.heap n0 Z111 f107 f108 Ar106 (own_len (own_len (own_len rfl))) (own_same (in_fol (in_home vh1)) (own_len (own_len rfl))) (fun _ => own_hv hvc)) hZ (hw _ (List.mem_of_getElem? (i := 65) rfl)) (hw _ (List.mem_of_getElem? (i := 3) rfl)) (by decide) (by decide)) q113a q113c (g := (mkF m 180 #[.val (.int vh1), .val (.int vh1), .val (.int ve1), .val (.int ve2), .val (.int ve3), .val (.int vw), .val (.int va), .val (.int vb), .val (.int vc), .val (.ref b78), .val (.int (own_home vh1)), .val (.int (own_fol (own_home vh1))), .val (.int (1 : Int32)), .val (.int (own_fol (own_home vh1))), .val (.int (own_home vh1)), .val (.int vh1), .val (.int va), .val (.int (own_home vh1))] [(.int vh1), (.int (own_home vh1)), (.ref b78)])) rfl (by rw [hml]; rfl) (Steps.refl _) (argsL := [(.int (own_home vh1)), (.int vh1)]) (rest := []) (lenOf own_pd2 rfl) rfl (by show 2 * 0 + _ ≤ _; exact Nat.le_of_eq rfl) (hb hby at_180) (fun _ _ => ⟨rfl, e112, (by decide : 2 + 0 ≤ _), (by decide : 19 + 0 ≤ _)⟩)
      dsimp only [Pt.U, Pt.locs, Pt.cells, Pt.slots] at X113 l113 y113 z113 st113 hQ113
      subst l113 y113 z113
      obtain ⟨rfl, N113q, e113⟩ := hQ113
      have N113 := Fr.app N112 N113q
      refine OGo.on (fun t k => st113.trans k) ?_
      show OGo p e below s _ _ _ (T113.setTop (mkF m 183 #[.val (.int vh1), .val (.int vh1), .val (.int ve1), .val (.int ve2), .val (.int ve3), .val (.int vw), .val (.int va), .val (.int vb), .val (.int vc), .val (.ref b78), .val (.int (own_home vh1)), .val (.int (own_fol (own_home vh1))), .val (.int (1 : Int32)), .val (.int (own_fol (own_home vh1))), .val (.int (own_home vh1)), .val (.int vh1), .val (.int va), .val (.int (own_home vh1))] [(.int (own_fol (own_home vh1)))]))
      refine OGo.on (fun t k => XS.istore X113.here hx rfl (hb hby at_183) rfl (l' := #[.val (.int vh1), .val (.int vh1), .val (.int ve1), .val (.int ve2), .val (.int ve3), .val (.int vw), .val (.int va), .val (.int vb), .val (.int vc), .val (.ref b78), .val (.int (own_home vh1)), .val (.int (own_fol (own_home vh1))), .val (.int (1 : Int32)), .val (.int (own_fol (own_home vh1))), .val (.int (own_home vh1)), .val (.int vh1), .val (.int va), .val (.int (own_fol (own_home vh1)))]) rfl k) ?_
      show OGo p e below s _ _ _ (T113.setTop (mkF m 185 #[.val (.int vh1), .val (.int vh1), .val (.int ve1), .val (.int ve2), .val (.int ve3), .val (.int vw), .val (.int va), .val (.int vb), .val (.int vc), .val (.ref b78), .val (.int (own_home vh1)), .val (.int (own_fol (own_home vh1))), .val (.int (1 : Int32)), .val (.int (own_fol (own_home vh1))), .val (.int (own_home vh1)), .val (.int vh1), .val (.int va), .val (.int (own_fol (own_home vh1)))] []))
      refine OGo.on (fun t k => XS.iload X113.here hx rfl (hb hby at_185) rfl k) ?_
      show OGo p e below s _ _ _ (T113.setTop (mkF m 187 #[.val (.int vh1), .val (.int vh1), .val (.int ve1), .val (.int ve2), .val (.int ve3), .val (.int vw), .val (.int va), .val (.int vb), .val (.int vc), .val (.ref b78), .val (.int (own_home vh1)), .val (.int (own_fol (own_home vh1))), .val (.int (1 : Int32)), .val (.int (own_fol (own_home vh1))), .val (.int (own_home vh1)), .val (.int vh1), .val (.int va), .val (.int (own_fol (own_home vh1)))] [(.int (own_fol (own_home vh1)))]))
      refine OGo.on (fun t k => XS.iload X113.here hx rfl (hb hby at_187) rfl k) ?_
      show OGo p e below s _ _ _ (T113.setTop (mkF m 189 #[.val (.int vh1), .val (.int vh1), .val (.int ve1), .val (.int ve2), .val (.int ve3), .val (.int vw), .val (.int va), .val (.int vb), .val (.int vc), .val (.ref b78), .val (.int (own_home vh1)), .val (.int (own_fol (own_home vh1))), .val (.int (1 : Int32)), .val (.int (own_fol (own_home vh1))), .val (.int (own_home vh1)), .val (.int vh1), .val (.int va), .val (.int (own_fol (own_home vh1)))] [(.int (own_fol (own_home vh1))), (.int (own_fol (own_home vh1)))]))
      refine OGo.on (fun t k => XS.icmpNo X113.here hx rfl (hb hby at_189) rfl (teq rfl).2 k) ?_
      show OGo p e below s _ _ _ (T113.setTop (mkF m 192 #[.val (.int vh1), .val (.int vh1), .val (.int ve1), .val (.int ve2), .val (.int ve3), .val (.int vw), .val (.int va), .val (.int vb), .val (.int vc), .val (.ref b78), .val (.int (own_home vh1)), .val (.int (own_fol (own_home vh1))), .val (.int (1 : Int32)), .val (.int (own_fol (own_home vh1))), .val (.int (own_home vh1)), .val (.int vh1), .val (.int va), .val (.int (own_fol (own_home vh1)))] []))
      refine OGo.on (fun t k => XS.aload X113.here hx rfl (hb hby at_192) rfl rfl k) ?_
      show OGo p e below s _ _ _ (T113.setTop (mkF m 194 #[.val (.int vh1), .val (.int vh1), .val (.int ve1), .val (.int ve2), .val (.int ve3), .val (.int vw), .val (.int va), .val (.int vb), .val (.int vc), .val (.ref b78), .val (.int (own_home vh1)), .val (.int (own_fol (own_home vh1))), .val (.int (1 : Int32)), .val (.int (own_fol (own_home vh1))), .val (.int (own_home vh1)), .val (.int vh1), .val (.int va), .val (.int (own_fol (own_home vh1)))] [(.ref b78)]))
      refine OGo.on (fun t k => XS.iload X113.here hx rfl (hb hby at_194) rfl k) ?_
      show OGo p e below s _ _ _ (T113.setTop (mkF m 196 #[.val (.int vh1), .val (.int vh1), .val (.int ve1), .val (.int ve2), .val (.int ve3), .val (.int vw), .val (.int va), .val (.int vb), .val (.int vc), .val (.ref b78), .val (.int (own_home vh1)), .val (.int (own_fol (own_home vh1))), .val (.int (1 : Int32)), .val (.int (own_fol (own_home vh1))), .val (.int (own_home vh1)), .val (.int vh1), .val (.int va), .val (.int (own_fol (own_home vh1)))] [(.int (own_fol (own_home vh1))), (.ref b78)]))
      obtain ⟨cq114, kq114, q114a, q114b, q114c⟩ := isOf hZ e113 f107
      obtain ⟨_, _, ⟨T114, L114, k114, n114⟩, -, X114, ⟨Lc114, hQ114, l114, y114, z114⟩, st114⟩ := X113.virtualBack hx (y := (⟨"com/example/metrilog/metrilog/Slots", "entry", "(I)I"⟩ : MethodName)) (z := (⟨"com/example/metrilog/metrilog/Slots", "entry", "(I)I"⟩ : MethodName)) hown (mvT hZ (hw _ (List.mem_of_getElem? (i := 52) rfl))) (mvT hZ (hw _ (List.mem_of_getElem? (i := 53) rfl))) (notFace_of_selects (args := #[]) (mvT hZ (hw _ (List.mem_of_getElem? (i := 55) rfl)))) (mvT hZ (hw _ (List.mem_of_getElem? (i := 55) rfl))) (mvT hZ (hw _ (List.mem_of_getElem? (i := 54) rfl))) (by decide) (backOf (W := 0) (own_mentry l Z a0 hw [] b78 rb ((([(0 : Int64), 0, 0, 0, 0, 0, 0, 0, 0, 0, 0, 0, 0, 0, 0, 0].set (own_home vh1).toNatClampNeg (own_val vh1 va)).set (own_fol (own_home vh1)).toNatClampNeg (own_val vh1 vb)).set (own_fol (own_home vh1)).toNatClampNeg (own_val vh1 vc)) (own_fol (own_home vh1)) (own_val vh1 vc) T106.heap n0 Z111 f108 Ar106 (own_len (own_len (own_len rfl))) (own_same (in_fol (in_home vh1)) (own_len (own_len rfl)))) hZ (hw _ (List.mem_of_getElem? (i := 56) rfl)) (hw _ (List.mem_of_getElem? (i := 3) rfl)) (by decide) (by decide)) q114a q114c (g := (mkF m 196 #[.val (.int vh1), .val (.int vh1), .val (.int ve1), .val (.int ve2), .val (.int ve3), .val (.int vw), .val (.int va), .val (.int vb), .val (.int vc), .val (.ref b78), .val (.int (own_home vh1)), .val (.int (own_fol (own_home vh1))), .val (.int (1 : Int32)), .val (.int (own_fol (own_home vh1))), .val (.int (own_home vh1)), .val (.int vh1), .val (.int va), .val (.int (own_fol (own_home vh1)))] [(.int (own_fol (own_home vh1))), (.ref b78)])) rfl (by rw [hml]; rfl) (Steps.refl _) (argsL := [(.int (own_fol (own_home vh1)))]) (rest := []) (lenOf own_pd1 rfl) rfl (by show 2 * 0 + _ ≤ _; exact Nat.le_of_eq rfl) (hb hby at_196) (fun _ _ => ⟨rfl, e113, (by decide : 2 + 0 ≤ _), (by decide : 19 + 0 ≤ _)⟩)
      dsimp only [Pt.U, Pt.locs, Pt.cells, Pt.slots] at X114 l114 y114 z114 st114 hQ114
      subst l114 y114 z114
      obtain ⟨rfl, N114q, e114⟩ := hQ114
      have N114 := Fr.app N113 N114q
      refine OGo.on (fun t k => st114.trans k) ?_
      show OGo p e below s _ _ _ (T114.setTop (mkF m 199 #[.val (.int vh1), .val (.int vh1), .val (.int ve1), .val (.int ve2), .val (.int ve3), .val (.int vw), .val (.int va), .val (.int vb), .val (.int vc), .val (.ref b78), .val (.int (own_home vh1)), .val (.int (own_fol (own_home vh1))), .val (.int (1 : Int32)), .val (.int (own_fol (own_home vh1))), .val (.int (own_home vh1)), .val (.int vh1), .val (.int va), .val (.int (own_fol (own_home vh1)))] [(.int (own_entry (own_val vh1 vc)))]))
      refine OGo.on (fun t k => XS.iload X114.here hx rfl (hb hby at_199) rfl k) ?_
      show OGo p e below s _ _ _ (T114.setTop (mkF m 201 #[.val (.int vh1), .val (.int vh1), .val (.int ve1), .val (.int ve2), .val (.int ve3), .val (.int vw), .val (.int va), .val (.int vb), .val (.int vc), .val (.ref b78), .val (.int (own_home vh1)), .val (.int (own_fol (own_home vh1))), .val (.int (1 : Int32)), .val (.int (own_fol (own_home vh1))), .val (.int (own_home vh1)), .val (.int vh1), .val (.int va), .val (.int (own_fol (own_home vh1)))] [(.int vc), (.int (own_entry (own_val vh1 vc)))]))
      refine OGo.on (fun t k => XS.icmpNo X114.here hx rfl (hb hby at_201) rfl (teq (own_ev hvc)).2 k) ?_
      show OGo p e below s _ _ _ (T114.setTop (mkF m 204 #[.val (.int vh1), .val (.int vh1), .val (.int ve1), .val (.int ve2), .val (.int ve3), .val (.int vw), .val (.int va), .val (.int vb), .val (.int vc), .val (.ref b78), .val (.int (own_home vh1)), .val (.int (own_fol (own_home vh1))), .val (.int (1 : Int32)), .val (.int (own_fol (own_home vh1))), .val (.int (own_home vh1)), .val (.int vh1), .val (.int va), .val (.int (own_fol (own_home vh1)))] []))
      refine OGo.on (fun t k => XS.aload X114.here hx rfl (hb hby at_204) rfl rfl k) ?_
      show OGo p e below s _ _ _ (T114.setTop (mkF m 206 #[.val (.int vh1), .val (.int vh1), .val (.int ve1), .val (.int ve2), .val (.int ve3), .val (.int vw), .val (.int va), .val (.int vb), .val (.int vc), .val (.ref b78), .val (.int (own_home vh1)), .val (.int (own_fol (own_home vh1))), .val (.int (1 : Int32)), .val (.int (own_fol (own_home vh1))), .val (.int (own_home vh1)), .val (.int vh1), .val (.int va), .val (.int (own_fol (own_home vh1)))] [(.ref b78)]))
      refine OGo.on (fun t k => XS.iload X114.here hx rfl (hb hby at_206) rfl k) ?_
      show OGo p e below s _ _ _ (T114.setTop (mkF m 208 #[.val (.int vh1), .val (.int vh1), .val (.int ve1), .val (.int ve2), .val (.int ve3), .val (.int vw), .val (.int va), .val (.int vb), .val (.int vc), .val (.ref b78), .val (.int (own_home vh1)), .val (.int (own_fol (own_home vh1))), .val (.int (1 : Int32)), .val (.int (own_fol (own_home vh1))), .val (.int (own_home vh1)), .val (.int vh1), .val (.int va), .val (.int (own_fol (own_home vh1)))] [(.int (own_home vh1)), (.ref b78)]))
      obtain ⟨cq115, kq115, q115a, q115b, q115c⟩ := isOf hZ e114 f107
      obtain ⟨_, _, ⟨T115, L115, k115, n115⟩, -, X115, ⟨Lc115, hQ115, l115, y115, z115⟩, st115⟩ := X114.virtualBack hx (y := (⟨"com/example/metrilog/metrilog/Slots", "entry", "(I)I"⟩ : MethodName)) (z := (⟨"com/example/metrilog/metrilog/Slots", "entry", "(I)I"⟩ : MethodName)) hown (mvT hZ (hw _ (List.mem_of_getElem? (i := 52) rfl))) (mvT hZ (hw _ (List.mem_of_getElem? (i := 53) rfl))) (notFace_of_selects (args := #[]) (mvT hZ (hw _ (List.mem_of_getElem? (i := 55) rfl)))) (mvT hZ (hw _ (List.mem_of_getElem? (i := 55) rfl))) (mvT hZ (hw _ (List.mem_of_getElem? (i := 54) rfl))) (by decide) (backOf (W := 0) (own_mentry l Z a0 hw [] b78 rb ((([(0 : Int64), 0, 0, 0, 0, 0, 0, 0, 0, 0, 0, 0, 0, 0, 0, 0].set (own_home vh1).toNatClampNeg (own_val vh1 va)).set (own_fol (own_home vh1)).toNatClampNeg (own_val vh1 vb)).set (own_fol (own_home vh1)).toNatClampNeg (own_val vh1 vc)) (own_home vh1) (own_val vh1 va) T106.heap n0 Z111 f108 Ar106 (own_len (own_len (own_len rfl))) (own_other (own_other (own_same (in_home vh1) rfl) (in_fol (in_home vh1)) (in_home vh1) (fol_ne (in_home vh1))) (in_fol (in_home vh1)) (in_home vh1) (fol_ne (in_home vh1)))) hZ (hw _ (List.mem_of_getElem? (i := 56) rfl)) (hw _ (List.mem_of_getElem? (i := 3) rfl)) (by decide) (by decide)) q115a q115c (g := (mkF m 208 #[.val (.int vh1), .val (.int vh1), .val (.int ve1), .val (.int ve2), .val (.int ve3), .val (.int vw), .val (.int va), .val (.int vb), .val (.int vc), .val (.ref b78), .val (.int (own_home vh1)), .val (.int (own_fol (own_home vh1))), .val (.int (1 : Int32)), .val (.int (own_fol (own_home vh1))), .val (.int (own_home vh1)), .val (.int vh1), .val (.int va), .val (.int (own_fol (own_home vh1)))] [(.int (own_home vh1)), (.ref b78)])) rfl (by rw [hml]; rfl) (Steps.refl _) (argsL := [(.int (own_home vh1))]) (rest := []) (lenOf own_pd1 rfl) rfl (by show 2 * 0 + _ ≤ _; exact Nat.le_of_eq rfl) (hb hby at_208) (fun _ _ => ⟨rfl, e114, (by decide : 2 + 0 ≤ _), (by decide : 19 + 0 ≤ _)⟩)
      dsimp only [Pt.U, Pt.locs, Pt.cells, Pt.slots] at X115 l115 y115 z115 st115 hQ115
      subst l115 y115 z115
      obtain ⟨rfl, N115q, e115⟩ := hQ115
      have N115 := Fr.app N114 N115q
      refine OGo.on (fun t k => st115.trans k) ?_
      show OGo p e below s _ _ _ (T115.setTop (mkF m 211 #[.val (.int vh1), .val (.int vh1), .val (.int ve1), .val (.int ve2), .val (.int ve3), .val (.int vw), .val (.int va), .val (.int vb), .val (.int vc), .val (.ref b78), .val (.int (own_home vh1)), .val (.int (own_fol (own_home vh1))), .val (.int (1 : Int32)), .val (.int (own_fol (own_home vh1))), .val (.int (own_home vh1)), .val (.int vh1), .val (.int va), .val (.int (own_fol (own_home vh1)))] [(.int (own_entry (own_val vh1 va)))]))
      refine OGo.on (fun t k => XS.iload X115.here hx rfl (hb hby at_211) rfl k) ?_
      show OGo p e below s _ _ _ (T115.setTop (mkF m 213 #[.val (.int vh1), .val (.int vh1), .val (.int ve1), .val (.int ve2), .val (.int ve3), .val (.int vw), .val (.int va), .val (.int vb), .val (.int vc), .val (.ref b78), .val (.int (own_home vh1)), .val (.int (own_fol (own_home vh1))), .val (.int (1 : Int32)), .val (.int (own_fol (own_home vh1))), .val (.int (own_home vh1)), .val (.int vh1), .val (.int va), .val (.int (own_fol (own_home vh1)))] [(.int va), (.int (own_entry (own_val vh1 va)))]))
      refine OGo.on (fun t k => XS.icmpNo X115.here hx rfl (hb hby at_213) rfl (teq (own_ev hva)).2 k) ?_
      show OGo p e below s _ _ _ (T115.setTop (mkF m 216 #[.val (.int vh1), .val (.int vh1), .val (.int ve1), .val (.int ve2), .val (.int ve3), .val (.int vw), .val (.int va), .val (.int vb), .val (.int vc), .val (.ref b78), .val (.int (own_home vh1)), .val (.int (own_fol (own_home vh1))), .val (.int (1 : Int32)), .val (.int (own_fol (own_home vh1))), .val (.int (own_home vh1)), .val (.int vh1), .val (.int va), .val (.int (own_fol (own_home vh1)))] []))
      refine OGo.on (fun t k => XS.iconst X115.here hx rfl (hb hby at_216) k) ?_
      show OGo p e below s _ _ _ (T115.setTop (mkF m 217 #[.val (.int vh1), .val (.int vh1), .val (.int ve1), .val (.int ve2), .val (.int ve3), .val (.int vw), .val (.int va), .val (.int vb), .val (.int vc), .val (.ref b78), .val (.int (own_home vh1)), .val (.int (own_fol (own_home vh1))), .val (.int (1 : Int32)), .val (.int (own_fol (own_home vh1))), .val (.int (own_home vh1)), .val (.int vh1), .val (.int va), .val (.int (own_fol (own_home vh1)))] [(.int (1 : Int32))]))
      refine OGo.on (fun t k => XS.goto X115.here hx rfl (pc0 := 217) (pc' := 221) rfl (hb hby at_217) (by decide) (by decide) k) ?_
      show OGo p e below s _ _ _ (T115.setTop (mkF m 221 #[.val (.int vh1), .val (.int vh1), .val (.int ve1), .val (.int ve2), .val (.int ve3), .val (.int vw), .val (.int va), .val (.int vb), .val (.int vc), .val (.ref b78), .val (.int (own_home vh1)), .val (.int (own_fol (own_home vh1))), .val (.int (1 : Int32)), .val (.int (own_fol (own_home vh1))), .val (.int (own_home vh1)), .val (.int vh1), .val (.int va), .val (.int (own_fol (own_home vh1)))] [(.int (1 : Int32))]))
      exact OGo.retN X115 hx (t := .boolean) hret hlk (by simp) (hb hby at_221) ⟨rfl, N115⟩ (by decide) (by decide)
  · refine OGo.on (fun t k => XS.icmpYes X88.here hx rfl (pc0 := 49) (pc' := 63) rfl (hb hby at_49) rfl (feq hc91).2 (by decide) (by decide) k) ?_
    show OGo p e below s _ _ _ (T88.setTop (mkF m 63 #[.val (.int vh1), .val (.int vh2), .val (.int ve1), .val (.int ve2), .val (.int ve3), .val (.int vw), .val (.int va), .val (.int vb), .val (.int vc), .val (.ref b78), .val (.int (own_home vh1)), .unset, .unset, .unset, .unset, .unset, .unset, .unset] []))
    by_cases hh116 : own_home vh2 = own_home vh1
    · rw [← hh116] at Ar88
      rw [← hh116]
      show OGo p e below s _ _ _ (T88.setTop (mkF m 63 #[.val (.int vh1), .val (.int vh2), .val (.int ve1), .val (.int ve2), .val (.int ve3), .val (.int vw), .val (.int va), .val (.int vb), .val (.int vc), .val (.ref b78), .val (.int (own_home vh2)), .unset, .unset, .unset, .unset, .unset, .unset, .unset] []))
      refine OGo.on (fun t k => XS.aload X88.here hx rfl (hb hby at_63) rfl rfl k) ?_
      show OGo p e below s _ _ _ (T88.setTop (mkF m 65 #[.val (.int vh1), .val (.int vh2), .val (.int ve1), .val (.int ve2), .val (.int ve3), .val (.int vw), .val (.int va), .val (.int vb), .val (.int vc), .val (.ref b78), .val (.int (own_home vh2)), .unset, .unset, .unset, .unset, .unset, .unset, .unset] [(.ref b78)]))
      refine OGo.on (fun t k => XS.iloadN X88.here hx rfl (hb hby at_65) rfl k) ?_
      show OGo p e below s _ _ _ (T88.setTop (mkF m 66 #[.val (.int vh1), .val (.int vh2), .val (.int ve1), .val (.int ve2), .val (.int ve3), .val (.int vw), .val (.int va), .val (.int vb), .val (.int vc), .val (.ref b78), .val (.int (own_home vh2)), .unset, .unset, .unset, .unset, .unset, .unset, .unset] [(.int vh2), (.ref b78)]))
      obtain ⟨cq117, kq117, q117a, q117b, q117c⟩ := isOf hZ rfl f89
      obtain ⟨_, _, ⟨T117, L117, k117, n117⟩, -, X117, ⟨Lc117, hQ117, l117, y117, z117⟩, st117⟩ := X88.virtualBack hx (y := (⟨"com/example/metrilog/metrilog/Slots", "first", "(I)I"⟩ : MethodName)) (z := (⟨"com/example/metrilog/metrilog/Slots", "first", "(I)I"⟩ : MethodName)) hown (mvT hZ (hw _ (List.mem_of_getElem? (i := 22) rfl))) (mvT hZ (hw _ (List.mem_of_getElem? (i := 23) rfl))) (notFace_of_selects (args := #[]) (mvT hZ (hw _ (List.mem_of_getElem? (i := 25) rfl)))) (mvT hZ (hw _ (List.mem_of_getElem? (i := 25) rfl))) (mvT hZ (hw _ (List.mem_of_getElem? (i := 24) rfl))) (by decide) (backOf (W := 0) (own_first1 l Z a0 hw [] b78 rb ([(0 : Int64), 0, 0, 0, 0, 0, 0, 0, 0, 0, 0, 0, 0, 0, 0, 0].set (own_home vh2).toNatClampNeg (own_val vh1 va)) vh2 (own_val vh1 va) (0 : Int64) T88.heap n0 Z90 f89 Fs88 Fh88 Ar88 (own_len rfl) (own_same (in_home vh2) rfl) (own_nz hva) (by rw [own_hv hva]; exact hc91) (own_other (own_zero (in_fol (in_home vh2))) (in_home vh2) (in_fol (in_home vh2)) (Ne.symm (fol_ne (in_home vh2)))) (fun q => absurd rfl q)) hZ (hw _ (List.mem_of_getElem? (i := 26) rfl)) (hw _ (List.mem_of_getElem? (i := 3) rfl)) (by decide) (by decide)) q117a q117c (g := (mkF m 66 #[.val (.int vh1), .val (.int vh2), .val (.int ve1), .val (.int ve2), .val (.int ve3), .val (.int vw), .val (.int va), .val (.int vb), .val (.int vc), .val (.ref b78), .val (.int (own_home vh2)), .unset, .unset, .unset, .unset, .unset, .unset, .unset] [(.int vh2), (.ref b78)])) rfl (by rw [hml]; rfl) (Steps.refl _) (argsL := [(.int vh2)]) (rest := []) (lenOf own_pd1 rfl) rfl (by show 2 * 0 + _ ≤ _; exact Nat.le_of_eq rfl) (hb hby at_66) (fun _ _ => ⟨rfl, rfl, (by decide : 2 + 0 ≤ _), (by decide : 19 + 0 ≤ _)⟩)
      dsimp only [Pt.U, Pt.locs, Pt.cells, Pt.slots] at X117 l117 y117 z117 st117 hQ117
      subst l117 y117 z117
      obtain ⟨rfl, N117q, e117⟩ := hQ117
      have N117 := Fr.app N88 N117q
      refine OGo.on (fun t k => st117.trans k) ?_
      show OGo p e below s _ _ _ (T117.setTop (mkF m 69 #[.val (.int vh1), .val (.int vh2), .val (.int ve1), .val (.int ve2), .val (.int ve3), .val (.int vw), .val (.int va), .val (.int vb), .val (.int vc), .val (.ref b78), .val (.int (own_home vh2)), .unset, .unset, .unset, .unset, .unset, .unset, .unset] [(.int (own_fol (own_home vh2)))]))
      refine OGo.on (fun t k => XS.istore X117.here hx rfl (hb hby at_69) rfl (l' := #[.val (.int vh1), .val (.int vh2), .val (.int ve1), .val (.int ve2), .val (.int ve3), .val (.int vw), .val (.int va), .val (.int vb), .val (.int vc), .val (.ref b78), .val (.int (own_home vh2)), .val (.int (own_fol (own_home vh2))), .unset, .unset, .unset, .unset, .unset, .unset]) rfl k) ?_
      show OGo p e below s _ _ _ (T117.setTop (mkF m 71 #[.val (.int vh1), .val (.int vh2), .val (.int ve1), .val (.int ve2), .val (.int ve3), .val (.int vw), .val (.int va), .val (.int vb), .val (.int vc), .val (.ref b78), .val (.int (own_home vh2)), .val (.int (own_fol (own_home vh2))), .unset, .unset, .unset, .unset, .unset, .unset] []))
      refine OGo.on (fun t k => XS.aload X117.here hx rfl (hb hby at_71) rfl rfl k) ?_
      show OGo p e below s _ _ _ (T117.setTop (mkF m 73 #[.val (.int vh1), .val (.int vh2), .val (.int ve1), .val (.int ve2), .val (.int ve3), .val (.int vw), .val (.int va), .val (.int vb), .val (.int vc), .val (.ref b78), .val (.int (own_home vh2)), .val (.int (own_fol (own_home vh2))), .unset, .unset, .unset, .unset, .unset, .unset] [(.ref b78)]))
      refine OGo.on (fun t k => XS.iload X117.here hx rfl (hb hby at_73) rfl k) ?_
      show OGo p e below s _ _ _ (T117.setTop (mkF m 75 #[.val (.int vh1), .val (.int vh2), .val (.int ve1), .val (.int ve2), .val (.int ve3), .val (.int vw), .val (.int va), .val (.int vb), .val (.int vc), .val (.ref b78), .val (.int (own_home vh2)), .val (.int (own_fol (own_home vh2))), .unset, .unset, .unset, .unset, .unset, .unset] [(.int (own_fol (own_home vh2))), (.ref b78)]))
      refine OGo.on (fun t k => XS.iloadN X117.here hx rfl (hb hby at_75) rfl k) ?_
      show OGo p e below s _ _ _ (T117.setTop (mkF m 76 #[.val (.int vh1), .val (.int vh2), .val (.int ve1), .val (.int ve2), .val (.int ve3), .val (.int vw), .val (.int va), .val (.int vb), .val (.int vc), .val (.ref b78), .val (.int (own_home vh2)), .val (.int (own_fol (own_home vh2))), .unset, .unset, .unset, .unset, .unset, .unset] [(.int vh2), (.int (own_fol (own_home vh2))), (.ref b78)]))
      refine OGo.on (fun t k => XS.iload X117.here hx rfl (hb hby at_76) rfl k) ?_
      show OGo p e below s _ _ _ (T117.setTop (mkF m 78 #[.val (.int vh1), .val (.int vh2), .val (.int ve1), .val (.int ve2), .val (.int ve3), .val (.int vw), .val (.int va), .val (.int vb), .val (.int vc), .val (.ref b78), .val (.int (own_home vh2)), .val (.int (own_fol (own_home vh2))), .unset, .unset, .unset, .unset, .unset, .unset] [(.int vb), (.int vh2), (.int (own_fol (own_home vh2))), (.ref b78)]))
      obtain ⟨cq118, kq118, q118a, q118b, q118c⟩ := isOf hZ e117 f89
      obtain ⟨_, _, ⟨T118, L118, k118, n118⟩, -, X118, ⟨Lc118, hQ118, l118, y118, z118⟩, st118⟩ := X117.virtualBack hx (y := (⟨"com/example/metrilog/metrilog/Slots", "fill", "(III)V"⟩ : MethodName)) (z := (⟨"com/example/metrilog/metrilog/Slots", "fill", "(III)V"⟩ : MethodName)) hown (mvT hZ (hw _ (List.mem_of_getElem? (i := 39) rfl))) (mvT hZ (hw _ (List.mem_of_getElem? (i := 40) rfl))) (notFace_of_selects (args := #[]) (mvT hZ (hw _ (List.mem_of_getElem? (i := 42) rfl)))) (mvT hZ (hw _ (List.mem_of_getElem? (i := 42) rfl))) (mvT hZ (hw _ (List.mem_of_getElem? (i := 41) rfl))) (by decide) (backOf (W := 0) (own_mfill l Z a0 hw [] b78 rb ([(0 : Int64), 0, 0, 0, 0, 0, 0, 0, 0, 0, 0, 0, 0, 0, 0, 0].set (own_home vh2).toNatClampNeg (own_val vh1 va)) (own_fol (own_home vh2)) vh2 vb (1 : Int32) T88.heap n0 Z90 ge79 g_rb hab f89 Fs88 Fh88 Fg88 Ar88 (own_len rfl) (in_fol (in_home vh2)) (by decide)) hZ (hw _ (List.mem_of_getElem? (i := 43) rfl)) (hw _ (List.mem_of_getElem? (i := 3) rfl)) (by decide) (by decide)) q118a q118c (g := (mkF m 78 #[.val (.int vh1), .val (.int vh2), .val (.int ve1), .val (.int ve2), .val (.int ve3), .val (.int vw), .val (.int va), .val (.int vb), .val (.int vc), .val (.ref b78), .val (.int (own_home vh2)), .val (.int (own_fol (own_home vh2))), .unset, .unset, .unset, .unset, .unset, .unset] [(.int vb), (.int vh2), (.int (own_fol (own_home vh2))), (.ref b78)])) rfl (by rw [hml]; rfl) (Steps.refl _) (argsL := [(.int (own_fol (own_home vh2))), (.int vh2), (.int vb)]) (rest := []) (lenOf own_pd4 rfl) rfl (by show 2 * 0 + _ ≤ _; exact Nat.le_of_eq rfl) (hb hby at_78) (fun _ _ => ⟨rfl, e117, (by decide : 2 + 0 ≤ _), (by decide : 19 + 0 ≤ _)⟩)
      dsimp only [Pt.U, Pt.locs, Pt.cells, Pt.slots] at X118 l118 y118 z118 st118 hQ118
      subst l118 y118 z118
      obtain ⟨rfl, N118q, K118, Fs118, Fh118, Ff118, Ar118⟩ := hQ118
      have N118 := Fr.app N117 N118q
      have Fg118 : Fld Z T118.heap b78 "com/example/metrilog/metrilog/Slots" "filled" "I" (.int (2 : Int32)) := Ff118
      have f119 : Exa Z T118.heap b78 "com/example/metrilog/metrilog/Slots" := f89.keep K118
      have Z120 : n0 ≤ T118.heap.size := Nat.le_trans Z90 K118.1
      refine OGo.on (fun t k => st118.trans k) ?_
      show OGo p e below s _ _ _ (T118.setTop (mkF m 81 #[.val (.int vh1), .val (.int vh2), .val (.int ve1), .val (.int ve2), .val (.int ve3), .val (.int vw), .val (.int va), .val (.int vb), .val (.int vc), .val (.ref b78), .val (.int (own_home vh2)), .val (.int (own_fol (own_home vh2))), .unset, .unset, .unset, .unset, .unset, .unset] []))
      refine OGo.on (fun t k => XS.iload X118.here hx rfl (hb hby at_81) rfl k) ?_
      show OGo p e below s _ _ _ (T118.setTop (mkF m 83 #[.val (.int vh1), .val (.int vh2), .val (.int ve1), .val (.int ve2), .val (.int ve3), .val (.int vw), .val (.int va), .val (.int vb), .val (.int vc), .val (.ref b78), .val (.int (own_home vh2)), .val (.int (own_fol (own_home vh2))), .unset, .unset, .unset, .unset, .unset, .unset] [(.int vw)]))
      refine OGo.on (fun t k => XS.iconst X118.here hx rfl (hb hby at_83) k) ?_
      show OGo p e below s _ _ _ (T118.setTop (mkF m 84 #[.val (.int vh1), .val (.int vh2), .val (.int ve1), .val (.int ve2), .val (.int ve3), .val (.int vw), .val (.int va), .val (.int vb), .val (.int vc), .val (.ref b78), .val (.int (own_home vh2)), .val (.int (own_fol (own_home vh2))), .unset, .unset, .unset, .unset, .unset, .unset] [(.int (1 : Int32)), (.int vw)]))
      refine OGo.on (fun t k => XS.iand X118.here hx rfl (hb hby at_84) rfl k) ?_
      show OGo p e below s _ _ _ (T118.setTop (mkF m 85 #[.val (.int vh1), .val (.int vh2), .val (.int ve1), .val (.int ve2), .val (.int ve3), .val (.int vw), .val (.int va), .val (.int vb), .val (.int vc), .val (.ref b78), .val (.int (own_home vh2)), .val (.int (own_fol (own_home vh2))), .unset, .unset, .unset, .unset, .unset, .unset] [(.int (vw &&& (1 : Int32)))]))
      by_cases hc121 : (vw &&& (1 : Int32)) = (0 : Int32)
      · refine OGo.on (fun t k => XS.ifYes X118.here hx rfl (pc0 := 85) (pc' := 92) rfl (hb hby at_85) rfl ((if0 _ _).trans (teq hc121).1) (by decide) (by decide) k) ?_
        show OGo p e below s _ _ _ (T118.setTop (mkF m 92 #[.val (.int vh1), .val (.int vh2), .val (.int ve1), .val (.int ve2), .val (.int ve3), .val (.int vw), .val (.int va), .val (.int vb), .val (.int vc), .val (.ref b78), .val (.int (own_home vh2)), .val (.int (own_fol (own_home vh2))), .unset, .unset, .unset, .unset, .unset, .unset] []))
        refine OGo.on (fun t k => XS.iconst X118.here hx rfl (hb hby at_92) k) ?_
        show OGo p e below s _ _ _ (T118.setTop (mkF m 93 #[.val (.int vh1), .val (.int vh2), .val (.int ve1), .val (.int ve2), .val (.int ve3), .val (.int vw), .val (.int va), .val (.int vb), .val (.int vc), .val (.ref b78), .val (.int (own_home vh2)), .val (.int (own_fol (own_home vh2))), .unset, .unset, .unset, .unset, .unset, .unset] [(.int (0 : Int32))]))
        refine OGo.on (fun t k => XS.istore X118.here hx rfl (hb hby at_93) rfl (l' := #[.val (.int vh1), .val (.int vh2), .val (.int ve1), .val (.int ve2), .val (.int ve3), .val (.int vw), .val (.int va), .val (.int vb), .val (.int vc), .val (.ref b78), .val (.int (own_home vh2)), .val (.int (own_fol (own_home vh2))), .val (.int (0 : Int32)), .unset, .unset, .unset, .unset, .unset]) rfl k) ?_
        show OGo p e below s _ _ _ (T118.setTop (mkF m 95 #[.val (.int vh1), .val (.int vh2), .val (.int ve1), .val (.int ve2), .val (.int ve3), .val (.int vw), .val (.int va), .val (.int vb), .val (.int vc), .val (.ref b78), .val (.int (own_home vh2)), .val (.int (own_fol (own_home vh2))), .val (.int (0 : Int32)), .unset, .unset, .unset, .unset, .unset] []))
        refine OGo.on (fun t k => XS.iload X118.here hx rfl (hb hby at_95) rfl k) ?_
        show OGo p e below s _ _ _ (T118.setTop (mkF m 97 #[.val (.int vh1), .val (.int vh2), .val (.int ve1), .val (.int ve2), .val (.int ve3), .val (.int vw), .val (.int va), .val (.int vb), .val (.int vc), .val (.ref b78), .val (.int (own_home vh2)), .val (.int (own_fol (own_home vh2))), .val (.int (0 : Int32)), .unset, .unset, .unset, .unset, .unset] [(.int (0 : Int32))]))
        refine OGo.on (fun t k => XS.ifYes X118.here hx rfl (pc0 := 97) (pc' := 105) rfl (hb hby at_97) rfl ((if0 _ _).trans (teq (by decide)).1) (by decide) (by decide) k) ?_
        show OGo p e below s _ _ _ (T118.setTop (mkF m 105 #[.val (.int vh1), .val (.int vh2), .val (.int ve1), .val (.int ve2), .val (.int ve3), .val (.int vw), .val (.int va), .val (.int vb), .val (.int vc), .val (.ref b78), .val (.int (own_home vh2)), .val (.int (own_fol (own_home vh2))), .val (.int (0 : Int32)), .unset, .unset, .unset, .unset, .unset] []))
        refine OGo.on (fun t k => XS.iload X118.here hx rfl (hb hby at_105) rfl k) ?_
        show OGo p e below s _ _ _ (T118.setTop (mkF m 107 #[.val (.int vh1), .val (.int vh2), .val (.int ve1), .val (.int ve2), .val (.int ve3), .val (.int vw), .val (.int va), .val (.int vb), .val (.int vc), .val (.ref b78), .val (.int (own_home vh2)), .val (.int (own_fol (own_home vh2))), .val (.int (0 : Int32)), .unset, .unset, .unset, .unset, .unset] [(.int (own_home vh2))]))
        refine OGo.on (fun t k => XS.istore X118.here hx rfl (hb hby at_107) rfl (l' := #[.val (.int vh1), .val (.int vh2), .val (.int ve1), .val (.int ve2), .val (.int ve3), .val (.int vw), .val (.int va), .val (.int vb), .val (.int vc), .val (.ref b78), .val (.int (own_home vh2)), .val (.int (own_fol (own_home vh2))), .val (.int (0 : Int32)), .val (.int (own_home vh2)), .unset, .unset, .unset, .unset]) rfl k) ?_
        show OGo p e below s _ _ _ (T118.setTop (mkF m 109 #[.val (.int vh1), .val (.int vh2), .val (.int ve1), .val (.int ve2), .val (.int ve3), .val (.int vw), .val (.int va), .val (.int vb), .val (.int vc), .val (.ref b78), .val (.int (own_home vh2)), .val (.int (own_fol (own_home vh2))), .val (.int (0 : Int32)), .val (.int (own_home vh2)), .unset, .unset, .unset, .unset] []))
        refine OGo.on (fun t k => XS.iload X118.here hx rfl (hb hby at_109) rfl k) ?_
        show OGo p e below s _ _ _ (T118.setTop (mkF m 111 #[.val (.int vh1), .val (.int vh2), .val (.int ve1), .val (.int ve2), .val (.int ve3), .val (.int vw), .val (.int va), .val (.int vb), .val (.int vc), .val (.ref b78), .val (.int (own_home vh2)), .val (.int (own_fol (own_home vh2))), .val (.int (0 : Int32)), .val (.int (own_home vh2)), .unset, .unset, .unset, .unset] [(.int (0 : Int32))]))
        refine OGo.on (fun t k => XS.ifYes X118.here hx rfl (pc0 := 111) (pc' := 119) rfl (hb hby at_111) rfl ((if0 _ _).trans (teq (by decide)).1) (by decide) (by decide) k) ?_
        show OGo p e below s _ _ _ (T118.setTop (mkF m 119 #[.val (.int vh1), .val (.int vh2), .val (.int ve1), .val (.int ve2), .val (.int ve3), .val (.int vw), .val (.int va), .val (.int vb), .val (.int vc), .val (.ref b78), .val (.int (own_home vh2)), .val (.int (own_fol (own_home vh2))), .val (.int (0 : Int32)), .val (.int (own_home vh2)), .unset, .unset, .unset, .unset] []))
        refine OGo.on (fun t k => XS.iload X118.here hx rfl (hb hby at_119) rfl k) ?_
        show OGo p e below s _ _ _ (T118.setTop (mkF m 121 #[.val (.int vh1), .val (.int vh2), .val (.int ve1), .val (.int ve2), .val (.int ve3), .val (.int vw), .val (.int va), .val (.int vb), .val (.int vc), .val (.ref b78), .val (.int (own_home vh2)), .val (.int (own_fol (own_home vh2))), .val (.int (0 : Int32)), .val (.int (own_home vh2)), .unset, .unset, .unset, .unset] [(.int (own_fol (own_home vh2)))]))
        refine OGo.on (fun t k => XS.istore X118.here hx rfl (hb hby at_121) rfl (l' := #[.val (.int vh1), .val (.int vh2), .val (.int ve1), .val (.int ve2), .val (.int ve3), .val (.int vw), .val (.int va), .val (.int vb), .val (.int vc), .val (.ref b78), .val (.int (own_home vh2)), .val (.int (own_fol (own_home vh2))), .val (.int (0 : Int32)), .val (.int (own_home vh2)), .val (.int (own_fol (own_home vh2))), .unset, .unset, .unset]) rfl k) ?_
        show OGo p e below s _ _ _ (T118.setTop (mkF m 123 #[.val (.int vh1), .val (.int vh2), .val (.int ve1), .val (.int ve2), .val (.int ve3), .val (.int vw), .val (.int va), .val (.int vb), .val (.int vc), .val (.ref b78), .val (.int (own_home vh2)), .val (.int (own_fol (own_home vh2))), .val (.int (0 : Int32)), .val (.int (own_home vh2)), .val (.int (own_fol (own_home vh2))), .unset, .unset, .unset] []))
        refine OGo.on (fun t k => XS.iload X118.here hx rfl (hb hby at_123) rfl k) ?_
        show OGo p e below s _ _ _ (T118.setTop (mkF m 125 #[.val (.int vh1), .val (.int vh2), .val (.int ve1), .val (.int ve2), .val (.int ve3), .val (.int vw), .val (.int va), .val (.int vb), .val (.int vc), .val (.ref b78), .val (.int (own_home vh2)), .val (.int (own_fol (own_home vh2))), .val (.int (0 : Int32)), .val (.int (own_home vh2)), .val (.int (own_fol (own_home vh2))), .unset, .unset, .unset] [(.int (0 : Int32))]))
        refine OGo.on (fun t k => XS.ifYes X118.here hx rfl (pc0 := 125) (pc' := 132) rfl (hb hby at_125) rfl ((if0 _ _).trans (teq (by decide)).1) (by decide) (by decide) k) ?_
        show OGo p e below s _ _ _ (T118.setTop (mkF m 132 #[.val (.int vh1), .val (.int vh2), .val (.int ve1), .val (.int ve2), .val (.int ve3), .val (.int vw), .val (.int va), .val (.int vb), .val (.int vc), .val (.ref b78), .val (.int (own_home vh2)), .val (.int (own_fol (own_home vh2))), .val (.int (0 : Int32)), .val (.int (own_home vh2)), .val (.int (own_fol (own_home vh2))), .unset, .unset, .unset] []))
        refine OGo.on (fun t k => XS.iloadN X118.here hx rfl (hb hby at_132) rfl k) ?_
        show OGo p e below s _ _ _ (T118.setTop (mkF m 133 #[.val (.int vh1), .val (.int vh2), .val (.int ve1), .val (.int ve2), .val (.int ve3), .val (.int vw), .val (.int va), .val (.int vb), .val (.int vc), .val (.ref b78), .val (.int (own_home vh2)), .val (.int (own_fol (own_home vh2))), .val (.int (0 : Int32)), .val (.int (own_home vh2)), .val (.int (own_fol (own_home vh2))), .unset, .unset, .unset] [(.int vh1)]))
        refine OGo.on (fun t k => XS.istore X118.here hx rfl (hb hby at_133) rfl (l' := #[.val (.int vh1), .val (.int vh2), .val (.int ve1), .val (.int ve2), .val (.int ve3), .val (.int vw), .val (.int va), .val (.int vb), .val (.int vc), .val (.ref b78), .val (.int (own_home vh2)), .val (.int (own_fol (own_home vh2))), .val (.int (0 : Int32)), .val (.int (own_home vh2)), .val (.int (own_fol (own_home vh2))), .val (.int vh1), .unset, .unset]) rfl k) ?_
        show OGo p e below s _ _ _ (T118.setTop (mkF m 135 #[.val (.int vh1), .val (.int vh2), .val (.int ve1), .val (.int ve2), .val (.int ve3), .val (.int vw), .val (.int va), .val (.int vb), .val (.int vc), .val (.ref b78), .val (.int (own_home vh2)), .val (.int (own_fol (own_home vh2))), .val (.int (0 : Int32)), .val (.int (own_home vh2)), .val (.int (own_fol (own_home vh2))), .val (.int vh1), .unset, .unset] []))
        refine OGo.on (fun t k => XS.iload X118.here hx rfl (hb hby at_135) rfl k) ?_
        show OGo p e below s _ _ _ (T118.setTop (mkF m 137 #[.val (.int vh1), .val (.int vh2), .val (.int ve1), .val (.int ve2), .val (.int ve3), .val (.int vw), .val (.int va), .val (.int vb), .val (.int vc), .val (.ref b78), .val (.int (own_home vh2)), .val (.int (own_fol (own_home vh2))), .val (.int (0 : Int32)), .val (.int (own_home vh2)), .val (.int (own_fol (own_home vh2))), .val (.int vh1), .unset, .unset] [(.int (0 : Int32))]))
        refine OGo.on (fun t k => XS.ifYes X118.here hx rfl (pc0 := 137) (pc' := 145) rfl (hb hby at_137) rfl ((if0 _ _).trans (teq (by decide)).1) (by decide) (by decide) k) ?_
        show OGo p e below s _ _ _ (T118.setTop (mkF m 145 #[.val (.int vh1), .val (.int vh2), .val (.int ve1), .val (.int ve2), .val (.int ve3), .val (.int vw), .val (.int va), .val (.int vb), .val (.int vc), .val (.ref b78), .val (.int (own_home vh2)), .val (.int (own_fol (own_home vh2))), .val (.int (0 : Int32)), .val (.int (own_home vh2)), .val (.int (own_fol (own_home vh2))), .val (.int vh1), .unset, .unset] []))
        refine OGo.on (fun t k => XS.iload X118.here hx rfl (hb hby at_145) rfl k) ?_
        show OGo p e below s _ _ _ (T118.setTop (mkF m 147 #[.val (.int vh1), .val (.int vh2), .val (.int ve1), .val (.int ve2), .val (.int ve3), .val (.int vw), .val (.int va), .val (.int vb), .val (.int vc), .val (.ref b78), .val (.int (own_home vh2)), .val (.int (own_fol (own_home vh2))), .val (.int (0 : Int32)), .val (.int (own_home vh2)), .val (.int (own_fol (own_home vh2))), .val (.int vh1), .unset, .unset] [(.int vb)]))
        refine OGo.on (fun t k => XS.istore X118.here hx rfl (hb hby at_147) rfl (l' := #[.val (.int vh1), .val (.int vh2), .val (.int ve1), .val (.int ve2), .val (.int ve3), .val (.int vw), .val (.int va), .val (.int vb), .val (.int vc), .val (.ref b78), .val (.int (own_home vh2)), .val (.int (own_fol (own_home vh2))), .val (.int (0 : Int32)), .val (.int (own_home vh2)), .val (.int (own_fol (own_home vh2))), .val (.int vh1), .val (.int vb), .unset]) rfl k) ?_
        show OGo p e below s _ _ _ (T118.setTop (mkF m 149 #[.val (.int vh1), .val (.int vh2), .val (.int ve1), .val (.int ve2), .val (.int ve3), .val (.int vw), .val (.int va), .val (.int vb), .val (.int vc), .val (.ref b78), .val (.int (own_home vh2)), .val (.int (own_fol (own_home vh2))), .val (.int (0 : Int32)), .val (.int (own_home vh2)), .val (.int (own_fol (own_home vh2))), .val (.int vh1), .val (.int vb), .unset] []))
        refine OGo.on (fun t k => XS.aload X118.here hx rfl (hb hby at_149) rfl rfl k) ?_
        show OGo p e below s _ _ _ (T118.setTop (mkF m 151 #[.val (.int vh1), .val (.int vh2), .val (.int ve1), .val (.int ve2), .val (.int ve3), .val (.int vw), .val (.int va), .val (.int vb), .val (.int vc), .val (.ref b78), .val (.int (own_home vh2)), .val (.int (own_fol (own_home vh2))), .val (.int (0 : Int32)), .val (.int (own_home vh2)), .val (.int (own_fol (own_home vh2))), .val (.int vh1), .val (.int vb), .unset] [(.ref b78)]))
        refine OGo.on (fun t k => XS.iload X118.here hx rfl (hb hby at_151) rfl k) ?_
        show OGo p e below s _ _ _ (T118.setTop (mkF m 153 #[.val (.int vh1), .val (.int vh2), .val (.int ve1), .val (.int ve2), .val (.int ve3), .val (.int vw), .val (.int va), .val (.int vb), .val (.int vc), .val (.ref b78), .val (.int (own_home vh2)), .val (.int (own_fol (own_home vh2))), .val (.int (0 : Int32)), .val (.int (own_home vh2)), .val (.int (own_fol (own_home vh2))), .val (.int vh1), .val (.int vb), .unset] [(.int (own_home vh2)), (.ref b78)]))
        refine OGo.on (fun t k => XS.iload X118.here hx rfl (hb hby at_153) rfl k) ?_
        show OGo p e below s _ _ _ (T118.setTop (mkF m 155 #[.val (.int vh1), .val (.int vh2), .val (.int ve1), .val (.int ve2), .val (.int ve3), .val (.int vw), .val (.int va), .val (.int vb), .val (.int vc), .val (.ref b78), .val (.int (own_home vh2)), .val (.int (own_fol (own_home vh2))), .val (.int (0 : Int32)), .val (.int (own_home vh2)), .val (.int (own_fol (own_home vh2))), .val (.int vh1), .val (.int vb), .unset] [(.int vc), (.int (own_home vh2)), (.ref b78)]))
        obtain ⟨cq122, kq122, q122a, q122b, q122c⟩ := isOf hZ rfl f119
        obtain ⟨_, _, ⟨T122, L122, k122, n122⟩, -, X122, ⟨Lc122, hQ122, l122, y122, z122⟩, st122⟩ := X118.virtualBack hx (y := (⟨"com/example/metrilog/metrilog/Slots", "replace", "(II)V"⟩ : MethodName)) (z := (⟨"com/example/metrilog/metrilog/Slots", "replace", "(II)V"⟩ : MethodName)) hown (mvT hZ (hw _ (List.mem_of_getElem? (i := 46) rfl))) (mvT hZ (hw _ (List.mem_of_getElem? (i := 47) rfl))) (notFace_of_selects (args := #[]) (mvT hZ (hw _ (List.mem_of_getElem? (i := 49) rfl)))) (mvT hZ (hw _ (List.mem_of_getElem? (i := 49) rfl))) (mvT hZ (hw _ (List.mem_of_getElem? (i := 48) rfl))) (by decide) (backOf (W := 0) (own_mrep l Z a0 hw [] b78 rb (([(0 : Int64), 0, 0, 0, 0, 0, 0, 0, 0, 0, 0, 0, 0, 0, 0, 0].set (own_home vh2).toNatClampNeg (own_val vh1 va)).set (own_fol (own_home vh2)).toNatClampNeg (own_val vh2 vb)) (own_home vh2) vc (own_val vh1 va) T118.heap n0 Z120 g_rb hab Fs118 Ar118 (own_len (own_len rfl)) (in_home vh2) (own_other (own_same (in_home vh2) rfl) (in_fol (in_home vh2)) (in_home vh2) (fol_ne (in_home vh2)))) hZ (hw _ (List.mem_of_getElem? (i := 50) rfl)) (hw _ (List.mem_of_getElem? (i := 3) rfl)) (by decide) (by decide)) q122a q122c (g := (mkF m 155 #[.val (.int vh1), .val (.int vh2), .val (.int ve1), .val (.int ve2), .val (.int ve3), .val (.int vw), .val (.int va), .val (.int vb), .val (.int vc), .val (.ref b78), .val (.int (own_home vh2)), .val (.int (own_fol (own_home vh2))), .val (.int (0 : Int32)), .val (.int (own_home vh2)), .val (.int (own_fol (own_home vh2))), .val (.int vh1), .val (.int vb), .unset] [(.int vc), (.int (own_home vh2)), (.ref b78)])) rfl (by rw [hml]; rfl) (Steps.refl _) (argsL := [(.int (own_home vh2)), (.int vc)]) (rest := []) (lenOf own_pd5 rfl) rfl (by show 2 * 0 + _ ≤ _; exact Nat.le_of_eq rfl) (hb hby at_155) (fun _ _ => ⟨rfl, rfl, (by decide : 2 + 0 ≤ _), (by decide : 19 + 0 ≤ _)⟩)
        dsimp only [Pt.U, Pt.locs, Pt.cells, Pt.slots] at X122 l122 y122 z122 st122 hQ122
        subst l122 y122 z122
        obtain ⟨rfl, N122q, K122, Ar122⟩ := hQ122
        have N122 := Fr.app N118 N122q
        rw [own_rv hva hvc] at Ar122
        have f123 : Exa Z T122.heap b78 "com/example/metrilog/metrilog/Slots" := f119.keep K122
        have f124 : Fld Z T122.heap b78 "com/example/metrilog/metrilog/Slots" "slots" "[J" (.ref rb) := Fs118.keep K122 (own_nm1 hab)
        have f125 : Fld Z T122.heap b78 "com/example/metrilog/metrilog/Slots" "shift" "I" (.int (28 : Int32)) := Fh118.keep K122 (own_nm1 hab)
        have f126 : Fld Z T122.heap b78 "com/example/metrilog/metrilog/Slots" "filled" "I" (.int (2 : Int32)) := Fg118.keep K122 (own_nm1 hab)
        have Z127 : n0 ≤ T122.heap.size := Nat.le_trans Z120 K122.1
        refine OGo.on (fun t k => st122.trans k) ?_
        show OGo p e below s _ _ _ (T122.setTop (mkF m 158 #[.val (.int vh1), .val (.int vh2), .val (.int ve1), .val (.int ve2), .val (.int ve3), .val (.int vw), .val (.int va), .val (.int vb), .val (.int vc), .val (.ref b78), .val (.int (own_home vh2)), .val (.int (own_fol (own_home vh2))), .val (.int (0 : Int32)), .val (.int (own_home vh2)), .val (.int (own_fol (own_home vh2))), .val (.int vh1), .val (.int vb), .unset] []))
        refine OGo.on (fun t k => XS.aload X122.here hx rfl (hb hby at_158) rfl rfl k) ?_
        show OGo p e below s _ _ _ (T122.setTop (mkF m 160 #[.val (.int vh1), .val (.int vh2), .val (.int ve1), .val (.int ve2), .val (.int ve3), .val (.int vw), .val (.int va), .val (.int vb), .val (.int vc), .val (.ref b78), .val (.int (own_home vh2)), .val (.int (own_fol (own_home vh2))), .val (.int (0 : Int32)), .val (.int (own_home vh2)), .val (.int (own_fol (own_home vh2))), .val (.int vh1), .val (.int vb), .unset] [(.ref b78)]))
        refine OGo.on (fun t k => XS.iload X122.here hx rfl (hb hby at_160) rfl k) ?_
        show OGo p e below s _ _ _ (T122.setTop (mkF m 162 #[.val (.int vh1), .val (.int vh2), .val (.int ve1), .val (.int ve2), .val (.int ve3), .val (.int vw), .val (.int va), .val (.int vb), .val (.int vc), .val (.ref b78), .val (.int (own_home vh2)), .val (.int (own_fol (own_home vh2))), .val (.int (0 : Int32)), .val (.int (own_home vh2)), .val (.int (own_fol (own_home vh2))), .val (.int vh1), .val (.int vb), .unset] [(.int vh1), (.ref b78)]))
        obtain ⟨cq128, kq128, q128a, q128b, q128c⟩ := isOf hZ rfl f123
        obtain ⟨_, _, ⟨T128, L128, k128, n128⟩, -, X128, ⟨Lc128, hQ128, l128, y128, z128⟩, st128⟩ := X122.virtualBack hx (y := (⟨"com/example/metrilog/metrilog/Slots", "first", "(I)I"⟩ : MethodName)) (z := (⟨"com/example/metrilog/metrilog/Slots", "first", "(I)I"⟩ : MethodName)) hown (mvT hZ (hw _ (List.mem_of_getElem? (i := 22) rfl))) (mvT hZ (hw _ (List.mem_of_getElem? (i := 23) rfl))) (notFace_of_selects (args := #[]) (mvT hZ (hw _ (List.mem_of_getElem? (i := 25) rfl)))) (mvT hZ (hw _ (List.mem_of_getElem? (i := 25) rfl))) (mvT hZ (hw _ (List.mem_of_getElem? (i := 24) rfl))) (by decide) (backOf (W := 0) (own_first0 l Z a0 hw [] b78 rb ((([(0 : Int64), 0, 0, 0, 0, 0, 0, 0, 0, 0, 0, 0, 0, 0, 0, 0].set (own_home vh2).toNatClampNeg (own_val vh1 va)).set (own_fol (own_home vh2)).toNatClampNeg (own_val vh2 vb)).set (own_home vh2).toNatClampNeg (own_val vh1 vc)) vh1 (own_val vh1 vc) T122.heap n0 Z127 f123 f124 f125 Ar122 (own_len (own_len (own_len rfl))) (own_al hh116 (own_same (in_home vh2) (own_len (own_len rfl)))) (fun _ => own_hv hvc)) hZ (hw _ (List.mem_of_getElem? (i := 26) rfl)) (hw _ (List.mem_of_getElem? (i := 3) rfl)) (by decide) (by decide)) q128a q128c (g := (mkF m 162 #[.val (.int vh1), .val (.int vh2), .val (.int ve1), .val (.int ve2), .val (.int ve3), .val (.int vw), .val (.int va), .val (.int vb), .val (.int vc), .val (.ref b78), .val (.int (own_home vh2)), .val (.int (own_fol (own_home vh2))), .val (.int (0 : Int32)), .val (.int (own_home vh2)), .val (.int (own_fol (own_home vh2))), .val (.int vh1), .val (.int vb), .unset] [(.int vh1), (.ref b78)])) rfl (by rw [hml]; rfl) (Steps.refl _) (argsL := [(.int vh1)]) (rest := []) (lenOf own_pd1 rfl) rfl (by show 2 * 0 + _ ≤ _; exact Nat.le_of_eq rfl) (hb hby at_162) (fun _ _ => ⟨rfl, rfl, (by decide : 2 + 0 ≤ _), (by decide : 19 + 0 ≤ _)⟩)
        dsimp only [Pt.U, Pt.locs, Pt.cells, Pt.slots] at X128 l128 y128 z128 st128 hQ128
        subst l128 y128 z128
        obtain ⟨rfl, N128q, e128⟩ := hQ128
        have N128 := Fr.app N122 N128q
        refine OGo.on (fun t k => st128.trans k) ?_
        show OGo p e below s _ _ _ (T128.setTop (mkF m 165 #[.val (.int vh1), .val (.int vh2), .val (.int ve1), .val (.int ve2), .val (.int ve3), .val (.int vw), .val (.int va), .val (.int vb), .val (.int vc), .val (.ref b78), .val (.int (own_home vh2)), .val (.int (own_fol (own_home vh2))), .val (.int (0 : Int32)), .val (.int (own_home vh2)), .val (.int (own_fol (own_home vh2))), .val (.int vh1), .val (.int vb), .unset] [(.int (own_home vh1))]))
        refine OGo.on (fun t k => XS.istore X128.here hx rfl (hb hby at_165) rfl (l' := #[.val (.int vh1), .val (.int vh2), .val (.int ve1), .val (.int ve2), .val (.int ve3), .val (.int vw), .val (.int va), .val (.int vb), .val (.int vc), .val (.ref b78), .val (.int (own_home vh2)), .val (.int (own_fol (own_home vh2))), .val (.int (0 : Int32)), .val (.int (own_home vh2)), .val (.int (own_fol (own_home vh2))), .val (.int vh1), .val (.int vb), .val (.int (own_home vh1))]) rfl k) ?_
        show OGo p e below s _ _ _ (T128.setTop (mkF m 167 #[.val (.int vh1), .val (.int vh2), .val (.int ve1), .val (.int ve2), .val (.int ve3), .val (.int vw), .val (.int va), .val (.int vb), .val (.int vc), .val (.ref b78), .val (.int (own_home vh2)), .val (.int (own_fol (own_home vh2))), .val (.int (0 : Int32)), .val (.int (own_home vh2)), .val (.int (own_fol (own_home vh2))), .val (.int vh1), .val (.int vb), .val (.int (own_home vh1))] []))
        refine OGo.on (fun t k => XS.iload X128.here hx rfl (hb hby at_167) rfl k) ?_
        show OGo p e below s _ _ _ (T128.setTop (mkF m 169 #[.val (.int vh1), .val (.int vh2), .val (.int ve1), .val (.int ve2), .val (.int ve3), .val (.int vw), .val (.int va), .val (.int vb), .val (.int vc), .val (.ref b78), .val (.int (own_home vh2)), .val (.int (own_fol (own_home vh2))), .val (.int (0 : Int32)), .val (.int (own_home vh2)), .val (.int (own_fol (own_home vh2))), .val (.int vh1), .val (.int vb), .val (.int (own_home vh1))] [(.int (own_home vh1))]))
        refine OGo.on (fun t k => XS.iload X128.here hx rfl (hb hby at_169) rfl k) ?_
        show OGo p e below s _ _ _ (T128.setTop (mkF m 171 #[.val (.int vh1), .val (.int vh2), .val (.int ve1), .val (.int ve2), .val (.int ve3), .val (.int vw), .val (.int va), .val (.int vb), .val (.int vc), .val (.ref b78), .val (.int (own_home vh2)), .val (.int (own_fol (own_home vh2))), .val (.int (0 : Int32)), .val (.int (own_home vh2)), .val (.int (own_fol (own_home vh2))), .val (.int vh1), .val (.int vb), .val (.int (own_home vh1))] [(.int (own_home vh2)), (.int (own_home vh1))]))
        refine OGo.on (fun t k => XS.icmpYes X128.here hx rfl (pc0 := 171) (pc' := 185) rfl (hb hby at_171) rfl (teq (Eq.symm hh116)).1 (by decide) (by decide) k) ?_
        show OGo p e below s _ _ _ (T128.setTop (mkF m 185 #[.val (.int vh1), .val (.int vh2), .val (.int ve1), .val (.int ve2), .val (.int ve3), .val (.int vw), .val (.int va), .val (.int vb), .val (.int vc), .val (.ref b78), .val (.int (own_home vh2)), .val (.int (own_fol (own_home vh2))), .val (.int (0 : Int32)), .val (.int (own_home vh2)), .val (.int (own_fol (own_home vh2))), .val (.int vh1), .val (.int vb), .val (.int (own_home vh1))] []))
        refine OGo.on (fun t k => XS.iload X128.here hx rfl (hb hby at_185) rfl k) ?_
        show OGo p e below s _ _ _ (T128.setTop (mkF m 187 #[.val (.int vh1), .val (.int vh2), .val (.int ve1), .val (.int ve2), .val (.int ve3), .val (.int vw), .val (.int va), .val (.int vb), .val (.int vc), .val (.ref b78), .val (.int (own_home vh2)), .val (.int (own_fol (own_home vh2))), .val (.int (0 : Int32)), .val (.int (own_home vh2)), .val (.int (own_fol (own_home vh2))), .val (.int vh1), .val (.int vb), .val (.int (own_home vh1))] [(.int (own_home vh1))]))
        refine OGo.on (fun t k => XS.iload X128.here hx rfl (hb hby at_187) rfl k) ?_
        show OGo p e below s _ _ _ (T128.setTop (mkF m 189 #[.val (.int vh1), .val (.int vh2), .val (.int ve1), .val (.int ve2), .val (.int ve3), .val (.int vw), .val (.int va), .val (.int vb), .val (.int vc), .val (.ref b78), .val (.int (own_home vh2)), .val (.int (own_fol (own_home vh2))), .val (.int (0 : Int32)), .val (.int (own_home vh2)), .val (.int (own_fol (own_home vh2))), .val (.int vh1), .val (.int vb), .val (.int (own_home vh1))] [(.int (own_home vh2)), (.int (own_home vh1))]))
        refine OGo.on (fun t k => XS.icmpNo X128.here hx rfl (hb hby at_189) rfl (teq (Eq.symm hh116)).2 k) ?_
        show OGo p e below s _ _ _ (T128.setTop (mkF m 192 #[.val (.int vh1), .val (.int vh2), .val (.int ve1), .val (.int ve2), .val (.int ve3), .val (.int vw), .val (.int va), .val (.int vb), .val (.int vc), .val (.ref b78), .val (.int (own_home vh2)), .val (.int (own_fol (own_home vh2))), .val (.int (0 : Int32)), .val (.int (own_home vh2)), .val (.int (own_fol (own_home vh2))), .val (.int vh1), .val (.int vb), .val (.int (own_home vh1))] []))
        refine OGo.on (fun t k => XS.aload X128.here hx rfl (hb hby at_192) rfl rfl k) ?_
        show OGo p e below s _ _ _ (T128.setTop (mkF m 194 #[.val (.int vh1), .val (.int vh2), .val (.int ve1), .val (.int ve2), .val (.int ve3), .val (.int vw), .val (.int va), .val (.int vb), .val (.int vc), .val (.ref b78), .val (.int (own_home vh2)), .val (.int (own_fol (own_home vh2))), .val (.int (0 : Int32)), .val (.int (own_home vh2)), .val (.int (own_fol (own_home vh2))), .val (.int vh1), .val (.int vb), .val (.int (own_home vh1))] [(.ref b78)]))
        refine OGo.on (fun t k => XS.iload X128.here hx rfl (hb hby at_194) rfl k) ?_
        show OGo p e below s _ _ _ (T128.setTop (mkF m 196 #[.val (.int vh1), .val (.int vh2), .val (.int ve1), .val (.int ve2), .val (.int ve3), .val (.int vw), .val (.int va), .val (.int vb), .val (.int vc), .val (.ref b78), .val (.int (own_home vh2)), .val (.int (own_fol (own_home vh2))), .val (.int (0 : Int32)), .val (.int (own_home vh2)), .val (.int (own_fol (own_home vh2))), .val (.int vh1), .val (.int vb), .val (.int (own_home vh1))] [(.int (own_home vh2)), (.ref b78)]))
        obtain ⟨cq129, kq129, q129a, q129b, q129c⟩ := isOf hZ e128 f123
        obtain ⟨_, _, ⟨T129, L129, k129, n129⟩, -, X129, ⟨Lc129, hQ129, l129, y129, z129⟩, st129⟩ := X128.virtualBack hx (y := (⟨"com/example/metrilog/metrilog/Slots", "entry", "(I)I"⟩ : MethodName)) (z := (⟨"com/example/metrilog/metrilog/Slots", "entry", "(I)I"⟩ : MethodName)) hown (mvT hZ (hw _ (List.mem_of_getElem? (i := 52) rfl))) (mvT hZ (hw _ (List.mem_of_getElem? (i := 53) rfl))) (notFace_of_selects (args := #[]) (mvT hZ (hw _ (List.mem_of_getElem? (i := 55) rfl)))) (mvT hZ (hw _ (List.mem_of_getElem? (i := 55) rfl))) (mvT hZ (hw _ (List.mem_of_getElem? (i := 54) rfl))) (by decide) (backOf (W := 0) (own_mentry l Z a0 hw [] b78 rb ((([(0 : Int64), 0, 0, 0, 0, 0, 0, 0, 0, 0, 0, 0, 0, 0, 0, 0].set (own_home vh2).toNatClampNeg (own_val vh1 va)).set (own_fol (own_home vh2)).toNatClampNeg (own_val vh2 vb)).set (own_home vh2).toNatClampNeg (own_val vh1 vc)) (own_home vh2) (own_val vh1 vc) T122.heap n0 Z127 f124 Ar122 (own_len (own_len (own_len rfl))) (own_same (in_home vh2) (own_len (own_len rfl)))) hZ (hw _ (List.mem_of_getElem? (i := 56) rfl)) (hw _ (List.mem_of_getElem? (i := 3) rfl)) (by decide) (by decide)) q129a q129c (g := (mkF m 196 #[.val (.int vh1), .val (.int vh2), .val (.int ve1), .val (.int ve2), .val (.int ve3), .val (.int vw), .val (.int va), .val (.int vb), .val (.int vc), .val (.ref b78), .val (.int (own_home vh2)), .val (.int (own_fol (own_home vh2))), .val (.int (0 : Int32)), .val (.int (own_home vh2)), .val (.int (own_fol (own_home vh2))), .val (.int vh1), .val (.int vb), .val (.int (own_home vh1))] [(.int (own_home vh2)), (.ref b78)])) rfl (by rw [hml]; rfl) (Steps.refl _) (argsL := [(.int (own_home vh2))]) (rest := []) (lenOf own_pd1 rfl) rfl (by show 2 * 0 + _ ≤ _; exact Nat.le_of_eq rfl) (hb hby at_196) (fun _ _ => ⟨rfl, e128, (by decide : 2 + 0 ≤ _), (by decide : 19 + 0 ≤ _)⟩)
        dsimp only [Pt.U, Pt.locs, Pt.cells, Pt.slots] at X129 l129 y129 z129 st129 hQ129
        subst l129 y129 z129
        obtain ⟨rfl, N129q, e129⟩ := hQ129
        have N129 := Fr.app N128 N129q
        refine OGo.on (fun t k => st129.trans k) ?_
        show OGo p e below s _ _ _ (T129.setTop (mkF m 199 #[.val (.int vh1), .val (.int vh2), .val (.int ve1), .val (.int ve2), .val (.int ve3), .val (.int vw), .val (.int va), .val (.int vb), .val (.int vc), .val (.ref b78), .val (.int (own_home vh2)), .val (.int (own_fol (own_home vh2))), .val (.int (0 : Int32)), .val (.int (own_home vh2)), .val (.int (own_fol (own_home vh2))), .val (.int vh1), .val (.int vb), .val (.int (own_home vh1))] [(.int (own_entry (own_val vh1 vc)))]))
        refine OGo.on (fun t k => XS.iload X129.here hx rfl (hb hby at_199) rfl k) ?_
        show OGo p e below s _ _ _ (T129.setTop (mkF m 201 #[.val (.int vh1), .val (.int vh2), .val (.int ve1), .val (.int ve2), .val (.int ve3), .val (.int vw), .val (.int va), .val (.int vb), .val (.int vc), .val (.ref b78), .val (.int (own_home vh2)), .val (.int (own_fol (own_home vh2))), .val (.int (0 : Int32)), .val (.int (own_home vh2)), .val (.int (own_fol (own_home vh2))), .val (.int vh1), .val (.int vb), .val (.int (own_home vh1))] [(.int vc), (.int (own_entry (own_val vh1 vc)))]))
        refine OGo.on (fun t k => XS.icmpNo X129.here hx rfl (hb hby at_201) rfl (teq (own_ev hvc)).2 k) ?_
        show OGo p e below s _ _ _ (T129.setTop (mkF m 204 #[.val (.int vh1), .val (.int vh2), .val (.int ve1), .val (.int ve2), .val (.int ve3), .val (.int vw), .val (.int va), .val (.int vb), .val (.int vc), .val (.ref b78), .val (.int (own_home vh2)), .val (.int (own_fol (own_home vh2))), .val (.int (0 : Int32)), .val (.int (own_home vh2)), .val (.int (own_fol (own_home vh2))), .val (.int vh1), .val (.int vb), .val (.int (own_home vh1))] []))
        refine OGo.on (fun t k => XS.aload X129.here hx rfl (hb hby at_204) rfl rfl k) ?_
        show OGo p e below s _ _ _ (T129.setTop (mkF m 206 #[.val (.int vh1), .val (.int vh2), .val (.int ve1), .val (.int ve2), .val (.int ve3), .val (.int vw), .val (.int va), .val (.int vb), .val (.int vc), .val (.ref b78), .val (.int (own_home vh2)), .val (.int (own_fol (own_home vh2))), .val (.int (0 : Int32)), .val (.int (own_home vh2)), .val (.int (own_fol (own_home vh2))), .val (.int vh1), .val (.int vb), .val (.int (own_home vh1))] [(.ref b78)]))
        refine OGo.on (fun t k => XS.iload X129.here hx rfl (hb hby at_206) rfl k) ?_
        show OGo p e below s _ _ _ (T129.setTop (mkF m 208 #[.val (.int vh1), .val (.int vh2), .val (.int ve1), .val (.int ve2), .val (.int ve3), .val (.int vw), .val (.int va), .val (.int vb), .val (.int vc), .val (.ref b78), .val (.int (own_home vh2)), .val (.int (own_fol (own_home vh2))), .val (.int (0 : Int32)), .val (.int (own_home vh2)), .val (.int (own_fol (own_home vh2))), .val (.int vh1), .val (.int vb), .val (.int (own_home vh1))] [(.int (own_fol (own_home vh2))), (.ref b78)]))
        obtain ⟨cq130, kq130, q130a, q130b, q130c⟩ := isOf hZ e129 f123
        obtain ⟨_, _, ⟨T130, L130, k130, n130⟩, -, X130, ⟨Lc130, hQ130, l130, y130, z130⟩, st130⟩ := X129.virtualBack hx (y := (⟨"com/example/metrilog/metrilog/Slots", "entry", "(I)I"⟩ : MethodName)) (z := (⟨"com/example/metrilog/metrilog/Slots", "entry", "(I)I"⟩ : MethodName)) hown (mvT hZ (hw _ (List.mem_of_getElem? (i := 52) rfl))) (mvT hZ (hw _ (List.mem_of_getElem? (i := 53) rfl))) (notFace_of_selects (args := #[]) (mvT hZ (hw _ (List.mem_of_getElem? (i := 55) rfl)))) (mvT hZ (hw _ (List.mem_of_getElem? (i := 55) rfl))) (mvT hZ (hw _ (List.mem_of_getElem? (i := 54) rfl))) (by decide) (backOf (W := 0) (own_mentry l Z a0 hw [] b78 rb ((([(0 : Int64), 0, 0, 0, 0, 0, 0, 0, 0, 0, 0, 0, 0, 0, 0, 0].set (own_home vh2).toNatClampNeg (own_val vh1 va)).set (own_fol (own_home vh2)).toNatClampNeg (own_val vh2 vb)).set (own_home vh2).toNatClampNeg (own_val vh1 vc)) (own_fol (own_home vh2)) (own_val vh2 vb) T122.heap n0 Z127 f124 Ar122 (own_len (own_len (own_len rfl))) (own_other (own_same (in_fol (in_home vh2)) (own_len rfl)) (in_home vh2) (in_fol (in_home vh2)) (Ne.symm (fol_ne (in_home vh2))))) hZ (hw _ (List.mem_of_getElem? (i := 56) rfl)) (hw _ (List.mem_of_getElem? (i := 3) rfl)) (by decide) (by decide)) q130a q130c (g := (mkF m 208 #[.val (.int vh1), .val (.int vh2), .val (.int ve1), .val (.int ve2), .val (.int ve3), .val (.int vw), .val (.int va), .val (.int vb), .val (.int vc), .val (.ref b78), .val (.int (own_home vh2)), .val (.int (own_fol (own_home vh2))), .val (.int (0 : Int32)), .val (.int (own_home vh2)), .val (.int (own_fol (own_home vh2))), .val (.int vh1), .val (.int vb), .val (.int (own_home vh1))] [(.int (own_fol (own_home vh2))), (.ref b78)])) rfl (by rw [hml]; rfl) (Steps.refl _) (argsL := [(.int (own_fol (own_home vh2)))]) (rest := []) (lenOf own_pd1 rfl) rfl (by show 2 * 0 + _ ≤ _; exact Nat.le_of_eq rfl) (hb hby at_208) (fun _ _ => ⟨rfl, e129, (by decide : 2 + 0 ≤ _), (by decide : 19 + 0 ≤ _)⟩)
        dsimp only [Pt.U, Pt.locs, Pt.cells, Pt.slots] at X130 l130 y130 z130 st130 hQ130
        subst l130 y130 z130
        obtain ⟨rfl, N130q, e130⟩ := hQ130
        have N130 := Fr.app N129 N130q
        refine OGo.on (fun t k => st130.trans k) ?_
        show OGo p e below s _ _ _ (T130.setTop (mkF m 211 #[.val (.int vh1), .val (.int vh2), .val (.int ve1), .val (.int ve2), .val (.int ve3), .val (.int vw), .val (.int va), .val (.int vb), .val (.int vc), .val (.ref b78), .val (.int (own_home vh2)), .val (.int (own_fol (own_home vh2))), .val (.int (0 : Int32)), .val (.int (own_home vh2)), .val (.int (own_fol (own_home vh2))), .val (.int vh1), .val (.int vb), .val (.int (own_home vh1))] [(.int (own_entry (own_val vh2 vb)))]))
        refine OGo.on (fun t k => XS.iload X130.here hx rfl (hb hby at_211) rfl k) ?_
        show OGo p e below s _ _ _ (T130.setTop (mkF m 213 #[.val (.int vh1), .val (.int vh2), .val (.int ve1), .val (.int ve2), .val (.int ve3), .val (.int vw), .val (.int va), .val (.int vb), .val (.int vc), .val (.ref b78), .val (.int (own_home vh2)), .val (.int (own_fol (own_home vh2))), .val (.int (0 : Int32)), .val (.int (own_home vh2)), .val (.int (own_fol (own_home vh2))), .val (.int vh1), .val (.int vb), .val (.int (own_home vh1))] [(.int vb), (.int (own_entry (own_val vh2 vb)))]))
        refine OGo.on (fun t k => XS.icmpNo X130.here hx rfl (hb hby at_213) rfl (teq (own_ev hvb)).2 k) ?_
        show OGo p e below s _ _ _ (T130.setTop (mkF m 216 #[.val (.int vh1), .val (.int vh2), .val (.int ve1), .val (.int ve2), .val (.int ve3), .val (.int vw), .val (.int va), .val (.int vb), .val (.int vc), .val (.ref b78), .val (.int (own_home vh2)), .val (.int (own_fol (own_home vh2))), .val (.int (0 : Int32)), .val (.int (own_home vh2)), .val (.int (own_fol (own_home vh2))), .val (.int vh1), .val (.int vb), .val (.int (own_home vh1))] []))
        refine OGo.on (fun t k => XS.iconst X130.here hx rfl (hb hby at_216) k) ?_
        show OGo p e below s _ _ _ (T130.setTop (mkF m 217 #[.val (.int vh1), .val (.int vh2), .val (.int ve1), .val (.int ve2), .val (.int ve3), .val (.int vw), .val (.int va), .val (.int vb), .val (.int vc), .val (.ref b78), .val (.int (own_home vh2)), .val (.int (own_fol (own_home vh2))), .val (.int (0 : Int32)), .val (.int (own_home vh2)), .val (.int (own_fol (own_home vh2))), .val (.int vh1), .val (.int vb), .val (.int (own_home vh1))] [(.int (1 : Int32))]))
        refine OGo.on (fun t k => XS.goto X130.here hx rfl (pc0 := 217) (pc' := 221) rfl (hb hby at_217) (by decide) (by decide) k) ?_
        show OGo p e below s _ _ _ (T130.setTop (mkF m 221 #[.val (.int vh1), .val (.int vh2), .val (.int ve1), .val (.int ve2), .val (.int ve3), .val (.int vw), .val (.int va), .val (.int vb), .val (.int vc), .val (.ref b78), .val (.int (own_home vh2)), .val (.int (own_fol (own_home vh2))), .val (.int (0 : Int32)), .val (.int (own_home vh2)), .val (.int (own_fol (own_home vh2))), .val (.int vh1), .val (.int vb), .val (.int (own_home vh1))] [(.int (1 : Int32))]))
        exact OGo.retN X130 hx (t := .boolean) hret hlk (by simp) (hb hby at_221) ⟨rfl, N130⟩ (by decide) (by decide)
      · refine OGo.on (fun t k => XS.ifNo X118.here hx rfl (hb hby at_85) rfl ((if0 _ _).trans (feq hc121).1) k) ?_
        show OGo p e below s _ _ _ (T118.setTop (mkF m 88 #[.val (.int vh1), .val (.int vh2), .val (.int ve1), .val (.int ve2), .val (.int ve3), .val (.int vw), .val (.int va), .val (.int vb), .val (.int vc), .val (.ref b78), .val (.int (own_home vh2)), .val (.int (own_fol (own_home vh2))), .unset, .unset, .unset, .unset, .unset, .unset] []))
        refine OGo.on (fun t k => XS.iconst X118.here hx rfl (hb hby at_88) k) ?_
        show OGo p e below s _ _ _ (T118.setTop (mkF m 89 #[.val (.int vh1), .val (.int vh2), .val (.int ve1), .val (.int ve2), .val (.int ve3), .val (.int vw), .val (.int va), .val (.int vb), .val (.int vc), .val (.ref b78), .val (.int (own_home vh2)), .val (.int (own_fol (own_home vh2))), .unset, .unset, .unset, .unset, .unset, .unset] [(.int (1 : Int32))]))
        refine OGo.on (fun t k => XS.goto X118.here hx rfl (pc0 := 89) (pc' := 93) rfl (hb hby at_89) (by decide) (by decide) k) ?_
        show OGo p e below s _ _ _ (T118.setTop (mkF m 93 #[.val (.int vh1), .val (.int vh2), .val (.int ve1), .val (.int ve2), .val (.int ve3), .val (.int vw), .val (.int va), .val (.int vb), .val (.int vc), .val (.ref b78), .val (.int (own_home vh2)), .val (.int (own_fol (own_home vh2))), .unset, .unset, .unset, .unset, .unset, .unset] [(.int (1 : Int32))]))
        refine OGo.on (fun t k => XS.istore X118.here hx rfl (hb hby at_93) rfl (l' := #[.val (.int vh1), .val (.int vh2), .val (.int ve1), .val (.int ve2), .val (.int ve3), .val (.int vw), .val (.int va), .val (.int vb), .val (.int vc), .val (.ref b78), .val (.int (own_home vh2)), .val (.int (own_fol (own_home vh2))), .val (.int (1 : Int32)), .unset, .unset, .unset, .unset, .unset]) rfl k) ?_
        show OGo p e below s _ _ _ (T118.setTop (mkF m 95 #[.val (.int vh1), .val (.int vh2), .val (.int ve1), .val (.int ve2), .val (.int ve3), .val (.int vw), .val (.int va), .val (.int vb), .val (.int vc), .val (.ref b78), .val (.int (own_home vh2)), .val (.int (own_fol (own_home vh2))), .val (.int (1 : Int32)), .unset, .unset, .unset, .unset, .unset] []))
        refine OGo.on (fun t k => XS.iload X118.here hx rfl (hb hby at_95) rfl k) ?_
        show OGo p e below s _ _ _ (T118.setTop (mkF m 97 #[.val (.int vh1), .val (.int vh2), .val (.int ve1), .val (.int ve2), .val (.int ve3), .val (.int vw), .val (.int va), .val (.int vb), .val (.int vc), .val (.ref b78), .val (.int (own_home vh2)), .val (.int (own_fol (own_home vh2))), .val (.int (1 : Int32)), .unset, .unset, .unset, .unset, .unset] [(.int (1 : Int32))]))
        refine OGo.on (fun t k => XS.ifNo X118.here hx rfl (hb hby at_97) rfl ((if0 _ _).trans (feq (by decide)).1) k) ?_
        show OGo p e below s _ _ _ (T118.setTop (mkF m 100 #[.val (.int vh1), .val (.int vh2), .val (.int ve1), .val (.int ve2), .val (.int ve3), .val (.int vw), .val (.int va), .val (.int vb), .val (.int vc), .val (.ref b78), .val (.int (own_home vh2)), .val (.int (own_fol (own_home vh2))), .val (.int (1 : Int32)), .unset, .unset, .unset, .unset, .unset] []))
        refine OGo.on (fun t k => XS.iload X118.here hx rfl (hb hby at_100) rfl k) ?_
        show OGo p e below s _ _ _ (T118.setTop (mkF m 102 #[.val (.int vh1), .val (.int vh2), .val (.int ve1), .val (.int ve2), .val (.int ve3), .val (.int vw), .val (.int va), .val (.int vb), .val (.int vc), .val (.ref b78), .val (.int (own_home vh2)), .val (.int (own_fol (own_home vh2))), .val (.int (1 : Int32)), .unset, .unset, .unset, .unset, .unset] [(.int (own_fol (own_home vh2)))]))
        refine OGo.on (fun t k => XS.goto X118.here hx rfl (pc0 := 102) (pc' := 107) rfl (hb hby at_102) (by decide) (by decide) k) ?_
        show OGo p e below s _ _ _ (T118.setTop (mkF m 107 #[.val (.int vh1), .val (.int vh2), .val (.int ve1), .val (.int ve2), .val (.int ve3), .val (.int vw), .val (.int va), .val (.int vb), .val (.int vc), .val (.ref b78), .val (.int (own_home vh2)), .val (.int (own_fol (own_home vh2))), .val (.int (1 : Int32)), .unset, .unset, .unset, .unset, .unset] [(.int (own_fol (own_home vh2)))]))
        refine OGo.on (fun t k => XS.istore X118.here hx rfl (hb hby at_107) rfl (l' := #[.val (.int vh1), .val (.int vh2), .val (.int ve1), .val (.int ve2), .val (.int ve3), .val (.int vw), .val (.int va), .val (.int vb), .val (.int vc), .val (.ref b78), .val (.int (own_home vh2)), .val (.int (own_fol (own_home vh2))), .val (.int (1 : Int32)), .val (.int (own_fol (own_home vh2))), .unset, .unset, .unset, .unset]) rfl k) ?_
        show OGo p e below s _ _ _ (T118.setTop (mkF m 109 #[.val (.int vh1), .val (.int vh2), .val (.int ve1), .val (.int ve2), .val (.int ve3), .val (.int vw), .val (.int va), .val (.int vb), .val (.int vc), .val (.ref b78), .val (.int (own_home vh2)), .val (.int (own_fol (own_home vh2))), .val (.int (1 : Int32)), .val (.int (own_fol (own_home vh2))), .unset, .unset, .unset, .unset] []))
        refine OGo.on (fun t k => XS.iload X118.here hx rfl (hb hby at_109) rfl k) ?_
        show OGo p e below s _ _ _ (T118.setTop (mkF m 111 #[.val (.int vh1), .val (.int vh2), .val (.int ve1), .val (.int ve2), .val (.int ve3), .val (.int vw), .val (.int va), .val (.int vb), .val (.int vc), .val (.ref b78), .val (.int (own_home vh2)), .val (.int (own_fol (own_home vh2))), .val (.int (1 : Int32)), .val (.int (own_fol (own_home vh2))), .unset, .unset, .unset, .unset] [(.int (1 : Int32))]))
        refine OGo.on (fun t k => XS.ifNo X118.here hx rfl (hb hby at_111) rfl ((if0 _ _).trans (feq (by decide)).1) k) ?_
        show OGo p e below s _ _ _ (T118.setTop (mkF m 114 #[.val (.int vh1), .val (.int vh2), .val (.int ve1), .val (.int ve2), .val (.int ve3), .val (.int vw), .val (.int va), .val (.int vb), .val (.int vc), .val (.ref b78), .val (.int (own_home vh2)), .val (.int (own_fol (own_home vh2))), .val (.int (1 : Int32)), .val (.int (own_fol (own_home vh2))), .unset, .unset, .unset, .unset] []))
        refine OGo.on (fun t k => XS.iload X118.here hx rfl (hb hby at_114) rfl k) ?_
        show OGo p e below s _ _ _ (T118.setTop (mkF m 116 #[.val (.int vh1), .val (.int vh2), .val (.int ve1), .val (.int ve2), .val (.int ve3), .val (.int vw), .val (.int va), .val (.int vb), .val (.int vc), .val (.ref b78), .val (.int (own_home vh2)), .val (.int (own_fol (own_home vh2))), .val (.int (1 : Int32)), .val (.int (own_fol (own_home vh2))), .unset, .unset, .unset, .unset] [(.int (own_home vh2))]))
        refine OGo.on (fun t k => XS.goto X118.here hx rfl (pc0 := 116) (pc' := 121) rfl (hb hby at_116) (by decide) (by decide) k) ?_
        show OGo p e below s _ _ _ (T118.setTop (mkF m 121 #[.val (.int vh1), .val (.int vh2), .val (.int ve1), .val (.int ve2), .val (.int ve3), .val (.int vw), .val (.int va), .val (.int vb), .val (.int vc), .val (.ref b78), .val (.int (own_home vh2)), .val (.int (own_fol (own_home vh2))), .val (.int (1 : Int32)), .val (.int (own_fol (own_home vh2))), .unset, .unset, .unset, .unset] [(.int (own_home vh2))]))
        refine OGo.on (fun t k => XS.istore X118.here hx rfl (hb hby at_121) rfl (l' := #[.val (.int vh1), .val (.int vh2), .val (.int ve1), .val (.int ve2), .val (.int ve3), .val (.int vw), .val (.int va), .val (.int vb), .val (.int vc), .val (.ref b78), .val (.int (own_home vh2)), .val (.int (own_fol (own_home vh2))), .val (.int (1 : Int32)), .val (.int (own_fol (own_home vh2))), .val (.int (own_home vh2)), .unset, .unset, .unset]) rfl k) ?_
        show OGo p e below s _ _ _ (T118.setTop (mkF m 123 #[.val (.int vh1), .val (.int vh2), .val (.int ve1), .val (.int ve2), .val (.int ve3), .val (.int vw), .val (.int va), .val (.int vb), .val (.int vc), .val (.ref b78), .val (.int (own_home vh2)), .val (.int (own_fol (own_home vh2))), .val (.int (1 : Int32)), .val (.int (own_fol (own_home vh2))), .val (.int (own_home vh2)), .unset, .unset, .unset] []))
        refine OGo.on (fun t k => XS.iload X118.here hx rfl (hb hby at_123) rfl k) ?_
        show OGo p e below s _ _ _ (T118.setTop (mkF m 125 #[.val (.int vh1), .val (.int vh2), .val (.int ve1), .val (.int ve2), .val (.int ve3), .val (.int vw), .val (.int va), .val (.int vb), .val (.int vc), .val (.ref b78), .val (.int (own_home vh2)), .val (.int (own_fol (own_home vh2))), .val (.int (1 : Int32)), .val (.int (own_fol (own_home vh2))), .val (.int (own_home vh2)), .unset, .unset, .unset] [(.int (1 : Int32))]))
        refine OGo.on (fun t k => XS.ifNo X118.here hx rfl (hb hby at_125) rfl ((if0 _ _).trans (feq (by decide)).1) k) ?_
        show OGo p e below s _ _ _ (T118.setTop (mkF m 128 #[.val (.int vh1), .val (.int vh2), .val (.int ve1), .val (.int ve2), .val (.int ve3), .val (.int vw), .val (.int va), .val (.int vb), .val (.int vc), .val (.ref b78), .val (.int (own_home vh2)), .val (.int (own_fol (own_home vh2))), .val (.int (1 : Int32)), .val (.int (own_fol (own_home vh2))), .val (.int (own_home vh2)), .unset, .unset, .unset] []))
        refine OGo.on (fun t k => XS.iloadN X118.here hx rfl (hb hby at_128) rfl k) ?_
        show OGo p e below s _ _ _ (T118.setTop (mkF m 129 #[.val (.int vh1), .val (.int vh2), .val (.int ve1), .val (.int ve2), .val (.int ve3), .val (.int vw), .val (.int va), .val (.int vb), .val (.int vc), .val (.ref b78), .val (.int (own_home vh2)), .val (.int (own_fol (own_home vh2))), .val (.int (1 : Int32)), .val (.int (own_fol (own_home vh2))), .val (.int (own_home vh2)), .unset, .unset, .unset] [(.int vh2)]))
        refine OGo.on (fun t k => XS.goto X118.here hx rfl (pc0 := 129) (pc' := 133) rfl (hb hby at_129) (by decide) (by decide) k) ?_
        show OGo p e below s _ _ _ (T118.setTop (mkF m 133 #[.val (.int vh1), .val (.int vh2), .val (.int ve1), .val (.int ve2), .val (.int ve3), .val (.int vw), .val (.int va), .val (.int vb), .val (.int vc), .val (.ref b78), .val (.int (own_home vh2)), .val (.int (own_fol (own_home vh2))), .val (.int (1 : Int32)), .val (.int (own_fol (own_home vh2))), .val (.int (own_home vh2)), .unset, .unset, .unset] [(.int vh2)]))
        refine OGo.on (fun t k => XS.istore X118.here hx rfl (hb hby at_133) rfl (l' := #[.val (.int vh1), .val (.int vh2), .val (.int ve1), .val (.int ve2), .val (.int ve3), .val (.int vw), .val (.int va), .val (.int vb), .val (.int vc), .val (.ref b78), .val (.int (own_home vh2)), .val (.int (own_fol (own_home vh2))), .val (.int (1 : Int32)), .val (.int (own_fol (own_home vh2))), .val (.int (own_home vh2)), .val (.int vh2), .unset, .unset]) rfl k) ?_
        show OGo p e below s _ _ _ (T118.setTop (mkF m 135 #[.val (.int vh1), .val (.int vh2), .val (.int ve1), .val (.int ve2), .val (.int ve3), .val (.int vw), .val (.int va), .val (.int vb), .val (.int vc), .val (.ref b78), .val (.int (own_home vh2)), .val (.int (own_fol (own_home vh2))), .val (.int (1 : Int32)), .val (.int (own_fol (own_home vh2))), .val (.int (own_home vh2)), .val (.int vh2), .unset, .unset] []))
        refine OGo.on (fun t k => XS.iload X118.here hx rfl (hb hby at_135) rfl k) ?_
        show OGo p e below s _ _ _ (T118.setTop (mkF m 137 #[.val (.int vh1), .val (.int vh2), .val (.int ve1), .val (.int ve2), .val (.int ve3), .val (.int vw), .val (.int va), .val (.int vb), .val (.int vc), .val (.ref b78), .val (.int (own_home vh2)), .val (.int (own_fol (own_home vh2))), .val (.int (1 : Int32)), .val (.int (own_fol (own_home vh2))), .val (.int (own_home vh2)), .val (.int vh2), .unset, .unset] [(.int (1 : Int32))]))
        refine OGo.on (fun t k => XS.ifNo X118.here hx rfl (hb hby at_137) rfl ((if0 _ _).trans (feq (by decide)).1) k) ?_
        show OGo p e below s _ _ _ (T118.setTop (mkF m 140 #[.val (.int vh1), .val (.int vh2), .val (.int ve1), .val (.int ve2), .val (.int ve3), .val (.int vw), .val (.int va), .val (.int vb), .val (.int vc), .val (.ref b78), .val (.int (own_home vh2)), .val (.int (own_fol (own_home vh2))), .val (.int (1 : Int32)), .val (.int (own_fol (own_home vh2))), .val (.int (own_home vh2)), .val (.int vh2), .unset, .unset] []))
        refine OGo.on (fun t k => XS.iload X118.here hx rfl (hb hby at_140) rfl k) ?_
        show OGo p e below s _ _ _ (T118.setTop (mkF m 142 #[.val (.int vh1), .val (.int vh2), .val (.int ve1), .val (.int ve2), .val (.int ve3), .val (.int vw), .val (.int va), .val (.int vb), .val (.int vc), .val (.ref b78), .val (.int (own_home vh2)), .val (.int (own_fol (own_home vh2))), .val (.int (1 : Int32)), .val (.int (own_fol (own_home vh2))), .val (.int (own_home vh2)), .val (.int vh2), .unset, .unset] [(.int va)]))
        refine OGo.on (fun t k => XS.goto X118.here hx rfl (pc0 := 142) (pc' := 147) rfl (hb hby at_142) (by decide) (by decide) k) ?_
        show OGo p e below s _ _ _ (T118.setTop (mkF m 147 #[.val (.int vh1), .val (.int vh2), .val (.int ve1), .val (.int ve2), .val (.int ve3), .val (.int vw), .val (.int va), .val (.int vb), .val (.int vc), .val (.ref b78), .val (.int (own_home vh2)), .val (.int (own_fol (own_home vh2))), .val (.int (1 : Int32)), .val (.int (own_fol (own_home vh2))), .val (.int (own_home vh2)), .val (.int vh2), .unset, .unset] [(.int va)]))
        refine OGo.on (fun t k => XS.istore X118.here hx rfl (hb hby at_147) rfl (l' := #[.val (.int vh1), .val (.int vh2), .val (.int ve1), .val (.int ve2), .val (.int ve3), .val (.int vw), .val (.int va), .val (.int vb), .val (.int vc), .val (.ref b78), .val (.int (own_home vh2)), .val (.int (own_fol (own_home vh2))), .val (.int (1 : Int32)), .val (.int (own_fol (own_home vh2))), .val (.int (own_home vh2)), .val (.int vh2), .val (.int va), .unset]) rfl k) ?_
        show OGo p e below s _ _ _ (T118.setTop (mkF m 149 #[.val (.int vh1), .val (.int vh2), .val (.int ve1), .val (.int ve2), .val (.int ve3), .val (.int vw), .val (.int va), .val (.int vb), .val (.int vc), .val (.ref b78), .val (.int (own_home vh2)), .val (.int (own_fol (own_home vh2))), .val (.int (1 : Int32)), .val (.int (own_fol (own_home vh2))), .val (.int (own_home vh2)), .val (.int vh2), .val (.int va), .unset] []))
        refine OGo.on (fun t k => XS.aload X118.here hx rfl (hb hby at_149) rfl rfl k) ?_
        show OGo p e below s _ _ _ (T118.setTop (mkF m 151 #[.val (.int vh1), .val (.int vh2), .val (.int ve1), .val (.int ve2), .val (.int ve3), .val (.int vw), .val (.int va), .val (.int vb), .val (.int vc), .val (.ref b78), .val (.int (own_home vh2)), .val (.int (own_fol (own_home vh2))), .val (.int (1 : Int32)), .val (.int (own_fol (own_home vh2))), .val (.int (own_home vh2)), .val (.int vh2), .val (.int va), .unset] [(.ref b78)]))
        refine OGo.on (fun t k => XS.iload X118.here hx rfl (hb hby at_151) rfl k) ?_
        show OGo p e below s _ _ _ (T118.setTop (mkF m 153 #[.val (.int vh1), .val (.int vh2), .val (.int ve1), .val (.int ve2), .val (.int ve3), .val (.int vw), .val (.int va), .val (.int vb), .val (.int vc), .val (.ref b78), .val (.int (own_home vh2)), .val (.int (own_fol (own_home vh2))), .val (.int (1 : Int32)), .val (.int (own_fol (own_home vh2))), .val (.int (own_home vh2)), .val (.int vh2), .val (.int va), .unset] [(.int (own_fol (own_home vh2))), (.ref b78)]))
        refine OGo.on (fun t k => XS.iload X118.here hx rfl (hb hby at_153) rfl k) ?_
        show OGo p e below s _ _ _ (T118.setTop (mkF m 155 #[.val (.int vh1), .val (.int vh2), .val (.int ve1), .val (.int ve2), .val (.int ve3), .val (.int vw), .val (.int va), .val (.int vb), .val (.int vc), .val (.ref b78), .val (.int (own_home vh2)), .val (.int (own_fol (own_home vh2))), .val (.int (1 : Int32)), .val (.int (own_fol (own_home vh2))), .val (.int (own_home vh2)), .val (.int vh2), .val (.int va), .unset] [(.int vc), (.int (own_fol (own_home vh2))), (.ref b78)]))
        obtain ⟨cq131, kq131, q131a, q131b, q131c⟩ := isOf hZ rfl f119
        obtain ⟨_, _, ⟨T131, L131, k131, n131⟩, -, X131, ⟨Lc131, hQ131, l131, y131, z131⟩, st131⟩ := X118.virtualBack hx (y := (⟨"com/example/metrilog/metrilog/Slots", "replace", "(II)V"⟩ : MethodName)) (z := (⟨"com/example/metrilog/metrilog/Slots", "replace", "(II)V"⟩ : MethodName)) hown (mvT hZ (hw _ (List.mem_of_getElem? (i := 46) rfl))) (mvT hZ (hw _ (List.mem_of_getElem? (i := 47) rfl))) (notFace_of_selects (args := #[]) (mvT hZ (hw _ (List.mem_of_getElem? (i := 49) rfl)))) (mvT hZ (hw _ (List.mem_of_getElem? (i := 49) rfl))) (mvT hZ (hw _ (List.mem_of_getElem? (i := 48) rfl))) (by decide) (backOf (W := 0) (own_mrep l Z a0 hw [] b78 rb (([(0 : Int64), 0, 0, 0, 0, 0, 0, 0, 0, 0, 0, 0, 0, 0, 0, 0].set (own_home vh2).toNatClampNeg (own_val vh1 va)).set (own_fol (own_home vh2)).toNatClampNeg (own_val vh2 vb)) (own_fol (own_home vh2)) vc (own_val vh2 vb) T118.heap n0 Z120 g_rb hab Fs118 Ar118 (own_len (own_len rfl)) (in_fol (in_home vh2)) (own_same (in_fol (in_home vh2)) (own_len rfl))) hZ (hw _ (List.mem_of_getElem? (i := 50) rfl)) (hw _ (List.mem_of_getElem? (i := 3) rfl)) (by decide) (by decide)) q131a q131c (g := (mkF m 155 #[.val (.int vh1), .val (.int vh2), .val (.int ve1), .val (.int ve2), .val (.int ve3), .val (.int vw), .val (.int va), .val (.int vb), .val (.int vc), .val (.ref b78), .val (.int (own_home vh2)), .val (.int (own_fol (own_home vh2))), .val (.int (1 : Int32)), .val (.int (own_fol (own_home vh2))), .val (.int (own_home vh2)), .val (.int vh2), .val (.int va), .unset] [(.int vc), (.int (own_fol (own_home vh2))), (.ref b78)])) rfl (by rw [hml]; rfl) (Steps.refl _) (argsL := [(.int (own_fol (own_home vh2))), (.int vc)]) (rest := []) (lenOf own_pd5 rfl) rfl (by show 2 * 0 + _ ≤ _; exact Nat.le_of_eq rfl) (hb hby at_155) (fun _ _ => ⟨rfl, rfl, (by decide : 2 + 0 ≤ _), (by decide : 19 + 0 ≤ _)⟩)
        dsimp only [Pt.U, Pt.locs, Pt.cells, Pt.slots] at X131 l131 y131 z131 st131 hQ131
        subst l131 y131 z131
        obtain ⟨rfl, N131q, K131, Ar131⟩ := hQ131
        have N131 := Fr.app N118 N131q
        rw [own_rv hvb hvc] at Ar131
        have f132 : Exa Z T131.heap b78 "com/example/metrilog/metrilog/Slots" := f119.keep K131
        have f133 : Fld Z T131.heap b78 "com/example/metrilog/metrilog/Slots" "slots" "[J" (.ref rb) := Fs118.keep K131 (own_nm1 hab)
        have f134 : Fld Z T131.heap b78 "com/example/metrilog/metrilog/Slots" "shift" "I" (.int (28 : Int32)) := Fh118.keep K131 (own_nm1 hab)
        have f135 : Fld Z T131.heap b78 "com/example/metrilog/metrilog/Slots" "filled" "I" (.int (2 : Int32)) := Fg118.keep K131 (own_nm1 hab)
        have Z136 : n0 ≤ T131.heap.size := Nat.le_trans Z120 K131.1
        refine OGo.on (fun t k => st131.trans k) ?_
        show OGo p e below s _ _ _ (T131.setTop (mkF m 158 #[.val (.int vh1), .val (.int vh2), .val (.int ve1), .val (.int ve2), .val (.int ve3), .val (.int vw), .val (.int va), .val (.int vb), .val (.int vc), .val (.ref b78), .val (.int (own_home vh2)), .val (.int (own_fol (own_home vh2))), .val (.int (1 : Int32)), .val (.int (own_fol (own_home vh2))), .val (.int (own_home vh2)), .val (.int vh2), .val (.int va), .unset] []))
        refine OGo.on (fun t k => XS.aload X131.here hx rfl (hb hby at_158) rfl rfl k) ?_
        show OGo p e below s _ _ _ (T131.setTop (mkF m 160 #[.val (.int vh1), .val (.int vh2), .val (.int ve1), .val (.int ve2), .val (.int ve3), .val (.int vw), .val (.int va), .val (.int vb), .val (.int vc), .val (.ref b78), .val (.int (own_home vh2)), .val (.int (own_fol (own_home vh2))), .val (.int (1 : Int32)), .val (.int (own_fol (own_home vh2))), .val (.int (own_home vh2)), .val (.int vh2), .val (.int va), .unset] [(.ref b78)]))
        refine OGo.on (fun t k => XS.iload X131.here hx rfl (hb hby at_160) rfl k) ?_
        show OGo p e below s _ _ _ (T131.setTop (mkF m 162 #[.val (.int vh1), .val (.int vh2), .val (.int ve1), .val (.int ve2), .val (.int ve3), .val (.int vw), .val (.int va), .val (.int vb), .val (.int vc), .val (.ref b78), .val (.int (own_home vh2)), .val (.int (own_fol (own_home vh2))), .val (.int (1 : Int32)), .val (.int (own_fol (own_home vh2))), .val (.int (own_home vh2)), .val (.int vh2), .val (.int va), .unset] [(.int vh2), (.ref b78)]))
        obtain ⟨cq137, kq137, q137a, q137b, q137c⟩ := isOf hZ rfl f132
        obtain ⟨_, _, ⟨T137, L137, k137, n137⟩, -, X137, ⟨Lc137, hQ137, l137, y137, z137⟩, st137⟩ := X131.virtualBack hx (y := (⟨"com/example/metrilog/metrilog/Slots", "first", "(I)I"⟩ : MethodName)) (z := (⟨"com/example/metrilog/metrilog/Slots", "first", "(I)I"⟩ : MethodName)) hown (mvT hZ (hw _ (List.mem_of_getElem? (i := 22) rfl))) (mvT hZ (hw _ (List.mem_of_getElem? (i := 23) rfl))) (notFace_of_selects (args := #[]) (mvT hZ (hw _ (List.mem_of_getElem? (i := 25) rfl)))) (mvT hZ (hw _ (List.mem_of_getElem? (i := 25) rfl))) (mvT hZ (hw _ (List.mem_of_getElem? (i := 24) rfl))) (by decide) (backOf (W := 0) (own_first1 l Z a0 hw [] b78 rb ((([(0 : Int64), 0, 0, 0, 0, 0, 0, 0, 0, 0, 0, 0, 0, 0, 0, 0].set (own_home vh2).toNatClampNeg (own_val vh1 va)).set (own_fol (own_home vh2)).toNatClampNeg (own_val vh2 vb)).set (own_fol (own_home vh2)).toNatClampNeg (own_val vh2 vc)) vh2 (own_val vh1 va) (own_val vh2 vc) T131.heap n0 Z136 f132 f133 f134 Ar131 (own_len (own_len (own_len rfl))) (own_other (own_other (own_same (in_home vh2) rfl) (in_fol (in_home vh2)) (in_home vh2) (fol_ne (in_home vh2))) (in_fol (in_home vh2)) (in_home vh2) (fol_ne (in_home vh2))) (own_nz hva) (by rw [own_hv hva]; exact hc91) (own_same (in_fol (in_home vh2)) (own_len (own_len rfl))) (fun _ => own_hv hvc)) hZ (hw _ (List.mem_of_getElem? (i := 26) rfl)) (hw _ (List.mem_of_getElem? (i := 3) rfl)) (by decide) (by decide)) q137a q137c (g := (mkF m 162 #[.val (.int vh1), .val (.int vh2), .val (.int ve1), .val (.int ve2), .val (.int ve3), .val (.int vw), .val (.int va), .val (.int vb), .val (.int vc), .val (.ref b78), .val (.int (own_home vh2)), .val (.int (own_fol (own_home vh2))), .val (.int (1 : Int32)), .val (.int (own_fol (own_home vh2))), .val (.int (own_home vh2)), .val (.int vh2), .val (.int va), .unset] [(.int vh2), (.ref b78)])) rfl (by rw [hml]; rfl) (Steps.refl _) (argsL := [(.int vh2)]) (rest := []) (lenOf own_pd1 rfl) rfl (by show 2 * 0 + _ ≤ _; exact Nat.le_of_eq rfl) (hb hby at_162) (fun _ _ => ⟨rfl, rfl, (by decide : 2 + 0 ≤ _), (by decide : 19 + 0 ≤ _)⟩)
        dsimp only [Pt.U, Pt.locs, Pt.cells, Pt.slots] at X137 l137 y137 z137 st137 hQ137
        subst l137 y137 z137
        obtain ⟨rfl, N137q, e137⟩ := hQ137
        have N137 := Fr.app N131 N137q
        refine OGo.on (fun t k => st137.trans k) ?_
        show OGo p e below s _ _ _ (T137.setTop (mkF m 165 #[.val (.int vh1), .val (.int vh2), .val (.int ve1), .val (.int ve2), .val (.int ve3), .val (.int vw), .val (.int va), .val (.int vb), .val (.int vc), .val (.ref b78), .val (.int (own_home vh2)), .val (.int (own_fol (own_home vh2))), .val (.int (1 : Int32)), .val (.int (own_fol (own_home vh2))), .val (.int (own_home vh2)), .val (.int vh2), .val (.int va), .unset] [(.int (own_fol (own_home vh2)))]))
        refine OGo.on (fun t k => XS.istore X137.here hx rfl (hb hby at_165) rfl (l' := #[.val (.int vh1), .val (.int vh2), .val (.int ve1), .val (.int ve2), .val (.int ve3), .val (.int vw), .val (.int va), .val (.int vb), .val (.int vc), .val (.ref b78), .val (.int (own_home vh2)), .val (.int (own_fol (own_home vh2))), .val (.int (1 : Int32)), .val (.int (own_fol (own_home vh2))), .val (.int (own_home vh2)), .val (.int vh2), .val (.int va), .val (.int (own_fol (own_home vh2)))]) rfl k) ?_
        show OGo p e below s _ _ _ (T137.setTop (mkF m 167 #[.val (.int vh1), .val (.int vh2), .val (.int ve1), .val (.int ve2), .val (.int ve3), .val (.int vw), .val (.int va), .val (.int vb), .val (.int vc), .val (.ref b78), .val (.int (own_home vh2)), .val (.int (own_fol (own_home vh2))), .val (.int (1 : Int32)), .val (.int (own_fol (own_home vh2))), .val (.int (own_home vh2)), .val (.int vh2), .val (.int va), .val (.int (own_fol (own_home vh2)))] []))
        refine OGo.on (fun t k => XS.iload X137.here hx rfl (hb hby at_167) rfl k) ?_
        show OGo p e below s _ _ _ (T137.setTop (mkF m 169 #[.val (.int vh1), .val (.int vh2), .val (.int ve1), .val (.int ve2), .val (.int ve3), .val (.int vw), .val (.int va), .val (.int vb), .val (.int vc), .val (.ref b78), .val (.int (own_home vh2)), .val (.int (own_fol (own_home vh2))), .val (.int (1 : Int32)), .val (.int (own_fol (own_home vh2))), .val (.int (own_home vh2)), .val (.int vh2), .val (.int va), .val (.int (own_fol (own_home vh2)))] [(.int (own_fol (own_home vh2)))]))
        refine OGo.on (fun t k => XS.iload X137.here hx rfl (hb hby at_169) rfl k) ?_
        show OGo p e below s _ _ _ (T137.setTop (mkF m 171 #[.val (.int vh1), .val (.int vh2), .val (.int ve1), .val (.int ve2), .val (.int ve3), .val (.int vw), .val (.int va), .val (.int vb), .val (.int vc), .val (.ref b78), .val (.int (own_home vh2)), .val (.int (own_fol (own_home vh2))), .val (.int (1 : Int32)), .val (.int (own_fol (own_home vh2))), .val (.int (own_home vh2)), .val (.int vh2), .val (.int va), .val (.int (own_fol (own_home vh2)))] [(.int (own_fol (own_home vh2))), (.int (own_fol (own_home vh2)))]))
        refine OGo.on (fun t k => XS.icmpYes X137.here hx rfl (pc0 := 171) (pc' := 185) rfl (hb hby at_171) rfl (teq rfl).1 (by decide) (by decide) k) ?_
        show OGo p e below s _ _ _ (T137.setTop (mkF m 185 #[.val (.int vh1), .val (.int vh2), .val (.int ve1), .val (.int ve2), .val (.int ve3), .val (.int vw), .val (.int va), .val (.int vb), .val (.int vc), .val (.ref b78), .val (.int (own_home vh2)), .val (.int (own_fol (own_home vh2))), .val (.int (1 : Int32)), .val (.int (own_fol (own_home vh2))), .val (.int (own_home vh2)), .val (.int vh2), .val (.int va), .val (.int (own_fol (own_home vh2)))] []))
        refine OGo.on (fun t k => XS.iload X137.here hx rfl (hb hby at_185) rfl k) ?_
        show OGo p e below s _ _ _ (T137.setTop (mkF m 187 #[.val (.int vh1), .val (.int vh2), .val (.int ve1), .val (.int ve2), .val (.int ve3), .val (.int vw), .val (.int va), .val (.int vb), .val (.int vc), .val (.ref b78), .val (.int (own_home vh2)), .val (.int (own_fol (own_home vh2))), .val (.int (1 : Int32)), .val (.int (own_fol (own_home vh2))), .val (.int (own_home vh2)), .val (.int vh2), .val (.int va), .val (.int (own_fol (own_home vh2)))] [(.int (own_fol (own_home vh2)))]))
        refine OGo.on (fun t k => XS.iload X137.here hx rfl (hb hby at_187) rfl k) ?_
        show OGo p e below s _ _ _ (T137.setTop (mkF m 189 #[.val (.int vh1), .val (.int vh2), .val (.int ve1), .val (.int ve2), .val (.int ve3), .val (.int vw), .val (.int va), .val (.int vb), .val (.int vc), .val (.ref b78), .val (.int (own_home vh2)), .val (.int (own_fol (own_home vh2))), .val (.int (1 : Int32)), .val (.int (own_fol (own_home vh2))), .val (.int (own_home vh2)), .val (.int vh2), .val (.int va), .val (.int (own_fol (own_home vh2)))] [(.int (own_fol (own_home vh2))), (.int (own_fol (own_home vh2)))]))
        refine OGo.on (fun t k => XS.icmpNo X137.here hx rfl (hb hby at_189) rfl (teq rfl).2 k) ?_
        show OGo p e below s _ _ _ (T137.setTop (mkF m 192 #[.val (.int vh1), .val (.int vh2), .val (.int ve1), .val (.int ve2), .val (.int ve3), .val (.int vw), .val (.int va), .val (.int vb), .val (.int vc), .val (.ref b78), .val (.int (own_home vh2)), .val (.int (own_fol (own_home vh2))), .val (.int (1 : Int32)), .val (.int (own_fol (own_home vh2))), .val (.int (own_home vh2)), .val (.int vh2), .val (.int va), .val (.int (own_fol (own_home vh2)))] []))
        refine OGo.on (fun t k => XS.aload X137.here hx rfl (hb hby at_192) rfl rfl k) ?_
        show OGo p e below s _ _ _ (T137.setTop (mkF m 194 #[.val (.int vh1), .val (.int vh2), .val (.int ve1), .val (.int ve2), .val (.int ve3), .val (.int vw), .val (.int va), .val (.int vb), .val (.int vc), .val (.ref b78), .val (.int (own_home vh2)), .val (.int (own_fol (own_home vh2))), .val (.int (1 : Int32)), .val (.int (own_fol (own_home vh2))), .val (.int (own_home vh2)), .val (.int vh2), .val (.int va), .val (.int (own_fol (own_home vh2)))] [(.ref b78)]))
        refine OGo.on (fun t k => XS.iload X137.here hx rfl (hb hby at_194) rfl k) ?_
        show OGo p e below s _ _ _ (T137.setTop (mkF m 196 #[.val (.int vh1), .val (.int vh2), .val (.int ve1), .val (.int ve2), .val (.int ve3), .val (.int vw), .val (.int va), .val (.int vb), .val (.int vc), .val (.ref b78), .val (.int (own_home vh2)), .val (.int (own_fol (own_home vh2))), .val (.int (1 : Int32)), .val (.int (own_fol (own_home vh2))), .val (.int (own_home vh2)), .val (.int vh2), .val (.int va), .val (.int (own_fol (own_home vh2)))] [(.int (own_fol (own_home vh2))), (.ref b78)]))
        obtain ⟨cq138, kq138, q138a, q138b, q138c⟩ := isOf hZ e137 f132
        obtain ⟨_, _, ⟨T138, L138, k138, n138⟩, -, X138, ⟨Lc138, hQ138, l138, y138, z138⟩, st138⟩ := X137.virtualBack hx (y := (⟨"com/example/metrilog/metrilog/Slots", "entry", "(I)I"⟩ : MethodName)) (z := (⟨"com/example/metrilog/metrilog/Slots", "entry", "(I)I"⟩ : MethodName)) hown (mvT hZ (hw _ (List.mem_of_getElem? (i := 52) rfl))) (mvT hZ (hw _ (List.mem_of_getElem? (i := 53) rfl))) (notFace_of_selects (args := #[]) (mvT hZ (hw _ (List.mem_of_getElem? (i := 55) rfl)))) (mvT hZ (hw _ (List.mem_of_getElem? (i := 55) rfl))) (mvT hZ (hw _ (List.mem_of_getElem? (i := 54) rfl))) (by decide) (backOf (W := 0) (own_mentry l Z a0 hw [] b78 rb ((([(0 : Int64), 0, 0, 0, 0, 0, 0, 0, 0, 0, 0, 0, 0, 0, 0, 0].set (own_home vh2).toNatClampNeg (own_val vh1 va)).set (own_fol (own_home vh2)).toNatClampNeg (own_val vh2 vb)).set (own_fol (own_home vh2)).toNatClampNeg (own_val vh2 vc)) (own_fol (own_home vh2)) (own_val vh2 vc) T131.heap n0 Z136 f133 Ar131 (own_len (own_len (own_len rfl))) (own_same (in_fol (in_home vh2)) (own_len (own_len rfl)))) hZ (hw _ (List.mem_of_getElem? (i := 56) rfl)) (hw _ (List.mem_of_getElem? (i := 3) rfl)) (by decide) (by decide)) q138a q138c (g := (mkF m 196 #[.val (.int vh1), .val (.int vh2), .val (.int ve1), .val (.int ve2), .val (.int ve3), .val (.int vw), .val (.int va), .val (.int vb), .val (.int vc), .val (.ref b78), .val (.int (own_home vh2)), .val (.int (own_fol (own_home vh2))), .val (.int (1 : Int32)), .val (.int (own_fol (own_home vh2))), .val (.int (own_home vh2)), .val (.int vh2), .val (.int va), .val (.int (own_fol (own_home vh2)))] [(.int (own_fol (own_home vh2))), (.ref b78)])) rfl (by rw [hml]; rfl) (Steps.refl _) (argsL := [(.int (own_fol (own_home vh2)))]) (rest := []) (lenOf own_pd1 rfl) rfl (by show 2 * 0 + _ ≤ _; exact Nat.le_of_eq rfl) (hb hby at_196) (fun _ _ => ⟨rfl, e137, (by decide : 2 + 0 ≤ _), (by decide : 19 + 0 ≤ _)⟩)
        dsimp only [Pt.U, Pt.locs, Pt.cells, Pt.slots] at X138 l138 y138 z138 st138 hQ138
        subst l138 y138 z138
        obtain ⟨rfl, N138q, e138⟩ := hQ138
        have N138 := Fr.app N137 N138q
        refine OGo.on (fun t k => st138.trans k) ?_
        show OGo p e below s _ _ _ (T138.setTop (mkF m 199 #[.val (.int vh1), .val (.int vh2), .val (.int ve1), .val (.int ve2), .val (.int ve3), .val (.int vw), .val (.int va), .val (.int vb), .val (.int vc), .val (.ref b78), .val (.int (own_home vh2)), .val (.int (own_fol (own_home vh2))), .val (.int (1 : Int32)), .val (.int (own_fol (own_home vh2))), .val (.int (own_home vh2)), .val (.int vh2), .val (.int va), .val (.int (own_fol (own_home vh2)))] [(.int (own_entry (own_val vh2 vc)))]))
        refine OGo.on (fun t k => XS.iload X138.here hx rfl (hb hby at_199) rfl k) ?_
        show OGo p e below s _ _ _ (T138.setTop (mkF m 201 #[.val (.int vh1), .val (.int vh2), .val (.int ve1), .val (.int ve2), .val (.int ve3), .val (.int vw), .val (.int va), .val (.int vb), .val (.int vc), .val (.ref b78), .val (.int (own_home vh2)), .val (.int (own_fol (own_home vh2))), .val (.int (1 : Int32)), .val (.int (own_fol (own_home vh2))), .val (.int (own_home vh2)), .val (.int vh2), .val (.int va), .val (.int (own_fol (own_home vh2)))] [(.int vc), (.int (own_entry (own_val vh2 vc)))]))
        refine OGo.on (fun t k => XS.icmpNo X138.here hx rfl (hb hby at_201) rfl (teq (own_ev hvc)).2 k) ?_
        show OGo p e below s _ _ _ (T138.setTop (mkF m 204 #[.val (.int vh1), .val (.int vh2), .val (.int ve1), .val (.int ve2), .val (.int ve3), .val (.int vw), .val (.int va), .val (.int vb), .val (.int vc), .val (.ref b78), .val (.int (own_home vh2)), .val (.int (own_fol (own_home vh2))), .val (.int (1 : Int32)), .val (.int (own_fol (own_home vh2))), .val (.int (own_home vh2)), .val (.int vh2), .val (.int va), .val (.int (own_fol (own_home vh2)))] []))
        refine OGo.on (fun t k => XS.aload X138.here hx rfl (hb hby at_204) rfl rfl k) ?_
        show OGo p e below s _ _ _ (T138.setTop (mkF m 206 #[.val (.int vh1), .val (.int vh2), .val (.int ve1), .val (.int ve2), .val (.int ve3), .val (.int vw), .val (.int va), .val (.int vb), .val (.int vc), .val (.ref b78), .val (.int (own_home vh2)), .val (.int (own_fol (own_home vh2))), .val (.int (1 : Int32)), .val (.int (own_fol (own_home vh2))), .val (.int (own_home vh2)), .val (.int vh2), .val (.int va), .val (.int (own_fol (own_home vh2)))] [(.ref b78)]))
        refine OGo.on (fun t k => XS.iload X138.here hx rfl (hb hby at_206) rfl k) ?_
        show OGo p e below s _ _ _ (T138.setTop (mkF m 208 #[.val (.int vh1), .val (.int vh2), .val (.int ve1), .val (.int ve2), .val (.int ve3), .val (.int vw), .val (.int va), .val (.int vb), .val (.int vc), .val (.ref b78), .val (.int (own_home vh2)), .val (.int (own_fol (own_home vh2))), .val (.int (1 : Int32)), .val (.int (own_fol (own_home vh2))), .val (.int (own_home vh2)), .val (.int vh2), .val (.int va), .val (.int (own_fol (own_home vh2)))] [(.int (own_home vh2)), (.ref b78)]))
        obtain ⟨cq139, kq139, q139a, q139b, q139c⟩ := isOf hZ e138 f132
        obtain ⟨_, _, ⟨T139, L139, k139, n139⟩, -, X139, ⟨Lc139, hQ139, l139, y139, z139⟩, st139⟩ := X138.virtualBack hx (y := (⟨"com/example/metrilog/metrilog/Slots", "entry", "(I)I"⟩ : MethodName)) (z := (⟨"com/example/metrilog/metrilog/Slots", "entry", "(I)I"⟩ : MethodName)) hown (mvT hZ (hw _ (List.mem_of_getElem? (i := 52) rfl))) (mvT hZ (hw _ (List.mem_of_getElem? (i := 53) rfl))) (notFace_of_selects (args := #[]) (mvT hZ (hw _ (List.mem_of_getElem? (i := 55) rfl)))) (mvT hZ (hw _ (List.mem_of_getElem? (i := 55) rfl))) (mvT hZ (hw _ (List.mem_of_getElem? (i := 54) rfl))) (by decide) (backOf (W := 0) (own_mentry l Z a0 hw [] b78 rb ((([(0 : Int64), 0, 0, 0, 0, 0, 0, 0, 0, 0, 0, 0, 0, 0, 0, 0].set (own_home vh2).toNatClampNeg (own_val vh1 va)).set (own_fol (own_home vh2)).toNatClampNeg (own_val vh2 vb)).set (own_fol (own_home vh2)).toNatClampNeg (own_val vh2 vc)) (own_home vh2) (own_val vh1 va) T131.heap n0 Z136 f133 Ar131 (own_len (own_len (own_len rfl))) (own_other (own_other (own_same (in_home vh2) rfl) (in_fol (in_home vh2)) (in_home vh2) (fol_ne (in_home vh2))) (in_fol (in_home vh2)) (in_home vh2) (fol_ne (in_home vh2)))) hZ (hw _ (List.mem_of_getElem? (i := 56) rfl)) (hw _ (List.mem_of_getElem? (i := 3) rfl)) (by decide) (by decide)) q139a q139c (g := (mkF m 208 #[.val (.int vh1), .val (.int vh2), .val (.int ve1), .val (.int ve2), .val (.int ve3), .val (.int vw), .val (.int va), .val (.int vb), .val (.int vc), .val (.ref b78), .val (.int (own_home vh2)), .val (.int (own_fol (own_home vh2))), .val (.int (1 : Int32)), .val (.int (own_fol (own_home vh2))), .val (.int (own_home vh2)), .val (.int vh2), .val (.int va), .val (.int (own_fol (own_home vh2)))] [(.int (own_home vh2)), (.ref b78)])) rfl (by rw [hml]; rfl) (Steps.refl _) (argsL := [(.int (own_home vh2))]) (rest := []) (lenOf own_pd1 rfl) rfl (by show 2 * 0 + _ ≤ _; exact Nat.le_of_eq rfl) (hb hby at_208) (fun _ _ => ⟨rfl, e138, (by decide : 2 + 0 ≤ _), (by decide : 19 + 0 ≤ _)⟩)
        dsimp only [Pt.U, Pt.locs, Pt.cells, Pt.slots] at X139 l139 y139 z139 st139 hQ139
        subst l139 y139 z139
        obtain ⟨rfl, N139q, e139⟩ := hQ139
        have N139 := Fr.app N138 N139q
        refine OGo.on (fun t k => st139.trans k) ?_
        show OGo p e below s _ _ _ (T139.setTop (mkF m 211 #[.val (.int vh1), .val (.int vh2), .val (.int ve1), .val (.int ve2), .val (.int ve3), .val (.int vw), .val (.int va), .val (.int vb), .val (.int vc), .val (.ref b78), .val (.int (own_home vh2)), .val (.int (own_fol (own_home vh2))), .val (.int (1 : Int32)), .val (.int (own_fol (own_home vh2))), .val (.int (own_home vh2)), .val (.int vh2), .val (.int va), .val (.int (own_fol (own_home vh2)))] [(.int (own_entry (own_val vh1 va)))]))
        refine OGo.on (fun t k => XS.iload X139.here hx rfl (hb hby at_211) rfl k) ?_
        show OGo p e below s _ _ _ (T139.setTop (mkF m 213 #[.val (.int vh1), .val (.int vh2), .val (.int ve1), .val (.int ve2), .val (.int ve3), .val (.int vw), .val (.int va), .val (.int vb), .val (.int vc), .val (.ref b78), .val (.int (own_home vh2)), .val (.int (own_fol (own_home vh2))), .val (.int (1 : Int32)), .val (.int (own_fol (own_home vh2))), .val (.int (own_home vh2)), .val (.int vh2), .val (.int va), .val (.int (own_fol (own_home vh2)))] [(.int va), (.int (own_entry (own_val vh1 va)))]))
        refine OGo.on (fun t k => XS.icmpNo X139.here hx rfl (hb hby at_213) rfl (teq (own_ev hva)).2 k) ?_
        show OGo p e below s _ _ _ (T139.setTop (mkF m 216 #[.val (.int vh1), .val (.int vh2), .val (.int ve1), .val (.int ve2), .val (.int ve3), .val (.int vw), .val (.int va), .val (.int vb), .val (.int vc), .val (.ref b78), .val (.int (own_home vh2)), .val (.int (own_fol (own_home vh2))), .val (.int (1 : Int32)), .val (.int (own_fol (own_home vh2))), .val (.int (own_home vh2)), .val (.int vh2), .val (.int va), .val (.int (own_fol (own_home vh2)))] []))
        refine OGo.on (fun t k => XS.iconst X139.here hx rfl (hb hby at_216) k) ?_
        show OGo p e below s _ _ _ (T139.setTop (mkF m 217 #[.val (.int vh1), .val (.int vh2), .val (.int ve1), .val (.int ve2), .val (.int ve3), .val (.int vw), .val (.int va), .val (.int vb), .val (.int vc), .val (.ref b78), .val (.int (own_home vh2)), .val (.int (own_fol (own_home vh2))), .val (.int (1 : Int32)), .val (.int (own_fol (own_home vh2))), .val (.int (own_home vh2)), .val (.int vh2), .val (.int va), .val (.int (own_fol (own_home vh2)))] [(.int (1 : Int32))]))
        refine OGo.on (fun t k => XS.goto X139.here hx rfl (pc0 := 217) (pc' := 221) rfl (hb hby at_217) (by decide) (by decide) k) ?_
        show OGo p e below s _ _ _ (T139.setTop (mkF m 221 #[.val (.int vh1), .val (.int vh2), .val (.int ve1), .val (.int ve2), .val (.int ve3), .val (.int vw), .val (.int va), .val (.int vb), .val (.int vc), .val (.ref b78), .val (.int (own_home vh2)), .val (.int (own_fol (own_home vh2))), .val (.int (1 : Int32)), .val (.int (own_fol (own_home vh2))), .val (.int (own_home vh2)), .val (.int vh2), .val (.int va), .val (.int (own_fol (own_home vh2)))] [(.int (1 : Int32))]))
        exact OGo.retN X139 hx (t := .boolean) hret hlk (by simp) (hb hby at_221) ⟨rfl, N139⟩ (by decide) (by decide)
    · show OGo p e below s _ _ _ (T88.setTop (mkF m 63 #[.val (.int vh1), .val (.int vh2), .val (.int ve1), .val (.int ve2), .val (.int ve3), .val (.int vw), .val (.int va), .val (.int vb), .val (.int vc), .val (.ref b78), .val (.int (own_home vh1)), .unset, .unset, .unset, .unset, .unset, .unset, .unset] []))
      refine OGo.on (fun t k => XS.aload X88.here hx rfl (hb hby at_63) rfl rfl k) ?_
      show OGo p e below s _ _ _ (T88.setTop (mkF m 65 #[.val (.int vh1), .val (.int vh2), .val (.int ve1), .val (.int ve2), .val (.int ve3), .val (.int vw), .val (.int va), .val (.int vb), .val (.int vc), .val (.ref b78), .val (.int (own_home vh1)), .unset, .unset, .unset, .unset, .unset, .unset, .unset] [(.ref b78)]))
      refine OGo.on (fun t k => XS.iloadN X88.here hx rfl (hb hby at_65) rfl k) ?_
      show OGo p e below s _ _ _ (T88.setTop (mkF m 66 #[.val (.int vh1), .val (.int vh2), .val (.int ve1), .val (.int ve2), .val (.int ve3), .val (.int vw), .val (.int va), .val (.int vb), .val (.int vc), .val (.ref b78), .val (.int (own_home vh1)), .unset, .unset, .unset, .unset, .unset, .unset, .unset] [(.int vh2), (.ref b78)]))
      obtain ⟨cq140, kq140, q140a, q140b, q140c⟩ := isOf hZ rfl f89
      obtain ⟨_, _, ⟨T140, L140, k140, n140⟩, -, X140, ⟨Lc140, hQ140, l140, y140, z140⟩, st140⟩ := X88.virtualBack hx (y := (⟨"com/example/metrilog/metrilog/Slots", "first", "(I)I"⟩ : MethodName)) (z := (⟨"com/example/metrilog/metrilog/Slots", "first", "(I)I"⟩ : MethodName)) hown (mvT hZ (hw _ (List.mem_of_getElem? (i := 22) rfl))) (mvT hZ (hw _ (List.mem_of_getElem? (i := 23) rfl))) (notFace_of_selects (args := #[]) (mvT hZ (hw _ (List.mem_of_getElem? (i := 25) rfl)))) (mvT hZ (hw _ (List.mem_of_getElem? (i := 25) rfl))) (mvT hZ (hw _ (List.mem_of_getElem? (i := 24) rfl))) (by decide) (backOf (W := 0) (own_first0 l Z a0 hw [] b78 rb ([(0 : Int64), 0, 0, 0, 0, 0, 0, 0, 0, 0, 0, 0, 0, 0, 0, 0].set (own_home vh1).toNatClampNeg (own_val vh1 va)) vh2 (0 : Int64) T88.heap n0 Z90 f89 Fs88 Fh88 Ar88 (own_len rfl) (own_other (own_zero (in_home vh2)) (in_home vh1) (in_home vh2) (Ne.symm hh116)) (fun q => absurd rfl q)) hZ (hw _ (List.mem_of_getElem? (i := 26) rfl)) (hw _ (List.mem_of_getElem? (i := 3) rfl)) (by decide) (by decide)) q140a q140c (g := (mkF m 66 #[.val (.int vh1), .val (.int vh2), .val (.int ve1), .val (.int ve2), .val (.int ve3), .val (.int vw), .val (.int va), .val (.int vb), .val (.int vc), .val (.ref b78), .val (.int (own_home vh1)), .unset, .unset, .unset, .unset, .unset, .unset, .unset] [(.int vh2), (.ref b78)])) rfl (by rw [hml]; rfl) (Steps.refl _) (argsL := [(.int vh2)]) (rest := []) (lenOf own_pd1 rfl) rfl (by show 2 * 0 + _ ≤ _; exact Nat.le_of_eq rfl) (hb hby at_66) (fun _ _ => ⟨rfl, rfl, (by decide : 2 + 0 ≤ _), (by decide : 19 + 0 ≤ _)⟩)
      dsimp only [Pt.U, Pt.locs, Pt.cells, Pt.slots] at X140 l140 y140 z140 st140 hQ140
      subst l140 y140 z140
      obtain ⟨rfl, N140q, e140⟩ := hQ140
      have N140 := Fr.app N88 N140q
      refine OGo.on (fun t k => st140.trans k) ?_
      show OGo p e below s _ _ _ (T140.setTop (mkF m 69 #[.val (.int vh1), .val (.int vh2), .val (.int ve1), .val (.int ve2), .val (.int ve3), .val (.int vw), .val (.int va), .val (.int vb), .val (.int vc), .val (.ref b78), .val (.int (own_home vh1)), .unset, .unset, .unset, .unset, .unset, .unset, .unset] [(.int (own_home vh2))]))
      refine OGo.on (fun t k => XS.istore X140.here hx rfl (hb hby at_69) rfl (l' := #[.val (.int vh1), .val (.int vh2), .val (.int ve1), .val (.int ve2), .val (.int ve3), .val (.int vw), .val (.int va), .val (.int vb), .val (.int vc), .val (.ref b78), .val (.int (own_home vh1)), .val (.int (own_home vh2)), .unset, .unset, .unset, .unset, .unset, .unset]) rfl k) ?_
      show OGo p e below s _ _ _ (T140.setTop (mkF m 71 #[.val (.int vh1), .val (.int vh2), .val (.int ve1), .val (.int ve2), .val (.int ve3), .val (.int vw), .val (.int va), .val (.int vb), .val (.int vc), .val (.ref b78), .val (.int (own_home vh1)), .val (.int (own_home vh2)), .unset, .unset, .unset, .unset, .unset, .unset] []))
      refine OGo.on (fun t k => XS.aload X140.here hx rfl (hb hby at_71) rfl rfl k) ?_
      show OGo p e below s _ _ _ (T140.setTop (mkF m 73 #[.val (.int vh1), .val (.int vh2), .val (.int ve1), .val (.int ve2), .val (.int ve3), .val (.int vw), .val (.int va), .val (.int vb), .val (.int vc), .val (.ref b78), .val (.int (own_home vh1)), .val (.int (own_home vh2)), .unset, .unset, .unset, .unset, .unset, .unset] [(.ref b78)]))
      refine OGo.on (fun t k => XS.iload X140.here hx rfl (hb hby at_73) rfl k) ?_
      show OGo p e below s _ _ _ (T140.setTop (mkF m 75 #[.val (.int vh1), .val (.int vh2), .val (.int ve1), .val (.int ve2), .val (.int ve3), .val (.int vw), .val (.int va), .val (.int vb), .val (.int vc), .val (.ref b78), .val (.int (own_home vh1)), .val (.int (own_home vh2)), .unset, .unset, .unset, .unset, .unset, .unset] [(.int (own_home vh2)), (.ref b78)]))
      refine OGo.on (fun t k => XS.iloadN X140.here hx rfl (hb hby at_75) rfl k) ?_
      show OGo p e below s _ _ _ (T140.setTop (mkF m 76 #[.val (.int vh1), .val (.int vh2), .val (.int ve1), .val (.int ve2), .val (.int ve3), .val (.int vw), .val (.int va), .val (.int vb), .val (.int vc), .val (.ref b78), .val (.int (own_home vh1)), .val (.int (own_home vh2)), .unset, .unset, .unset, .unset, .unset, .unset] [(.int vh2), (.int (own_home vh2)), (.ref b78)]))
      refine OGo.on (fun t k => XS.iload X140.here hx rfl (hb hby at_76) rfl k) ?_
      show OGo p e below s _ _ _ (T140.setTop (mkF m 78 #[.val (.int vh1), .val (.int vh2), .val (.int ve1), .val (.int ve2), .val (.int ve3), .val (.int vw), .val (.int va), .val (.int vb), .val (.int vc), .val (.ref b78), .val (.int (own_home vh1)), .val (.int (own_home vh2)), .unset, .unset, .unset, .unset, .unset, .unset] [(.int vb), (.int vh2), (.int (own_home vh2)), (.ref b78)]))
      obtain ⟨cq141, kq141, q141a, q141b, q141c⟩ := isOf hZ e140 f89
      obtain ⟨_, _, ⟨T141, L141, k141, n141⟩, -, X141, ⟨Lc141, hQ141, l141, y141, z141⟩, st141⟩ := X140.virtualBack hx (y := (⟨"com/example/metrilog/metrilog/Slots", "fill", "(III)V"⟩ : MethodName)) (z := (⟨"com/example/metrilog/metrilog/Slots", "fill", "(III)V"⟩ : MethodName)) hown (mvT hZ (hw _ (List.mem_of_getElem? (i := 39) rfl))) (mvT hZ (hw _ (List.mem_of_getElem? (i := 40) rfl))) (notFace_of_selects (args := #[]) (mvT hZ (hw _ (List.mem_of_getElem? (i := 42) rfl)))) (mvT hZ (hw _ (List.mem_of_getElem? (i := 42) rfl))) (mvT hZ (hw _ (List.mem_of_getElem? (i := 41) rfl))) (by decide) (backOf (W := 0) (own_mfill l Z a0 hw [] b78 rb ([(0 : Int64), 0, 0, 0, 0, 0, 0, 0, 0, 0, 0, 0, 0, 0, 0, 0].set (own_home vh1).toNatClampNeg (own_val vh1 va)) (own_home vh2) vh2 vb (1 : Int32) T88.heap n0 Z90 ge79 g_rb hab f89 Fs88 Fh88 Fg88 Ar88 (own_len rfl) (in_home vh2) (by decide)) hZ (hw _ (List.mem_of_getElem? (i := 43) rfl)) (hw _ (List.mem_of_getElem? (i := 3) rfl)) (by decide) (by decide)) q141a q141c (g := (mkF m 78 #[.val (.int vh1), .val (.int vh2), .val (.int ve1), .val (.int ve2), .val (.int ve3), .val (.int vw), .val (.int va), .val (.int vb), .val (.int vc), .val (.ref b78), .val (.int (own_home vh1)), .val (.int (own_home vh2)), .unset, .unset, .unset, .unset, .unset, .unset] [(.int vb), (.int vh2), (.int (own_home vh2)), (.ref b78)])) rfl (by rw [hml]; rfl) (Steps.refl _) (argsL := [(.int (own_home vh2)), (.int vh2), (.int vb)]) (rest := []) (lenOf own_pd4 rfl) rfl (by show 2 * 0 + _ ≤ _; exact Nat.le_of_eq rfl) (hb hby at_78) (fun _ _ => ⟨rfl, e140, (by decide : 2 + 0 ≤ _), (by decide : 19 + 0 ≤ _)⟩)
      dsimp only [Pt.U, Pt.locs, Pt.cells, Pt.slots] at X141 l141 y141 z141 st141 hQ141
      subst l141 y141 z141
      obtain ⟨rfl, N141q, K141, Fs141, Fh141, Ff141, Ar141⟩ := hQ141
      have N141 := Fr.app N140 N141q
      have Fg141 : Fld Z T141.heap b78 "com/example/metrilog/metrilog/Slots" "filled" "I" (.int (2 : Int32)) := Ff141
      have f142 : Exa Z T141.heap b78 "com/example/metrilog/metrilog/Slots" := f89.keep K141
      have Z143 : n0 ≤ T141.heap.size := Nat.le_trans Z90 K141.1
      refine OGo.on (fun t k => st141.trans k) ?_
      show OGo p e below s _ _ _ (T141.setTop (mkF m 81 #[.val (.int vh1), .val (.int vh2), .val (.int ve1), .val (.int ve2), .val (.int ve3), .val (.int vw), .val (.int va), .val (.int vb), .val (.int vc), .val (.ref b78), .val (.int (own_home vh1)), .val (.int (own_home vh2)), .unset, .unset, .unset, .unset, .unset, .unset] []))
      refine OGo.on (fun t k => XS.iload X141.here hx rfl (hb hby at_81) rfl k) ?_
      show OGo p e below s _ _ _ (T141.setTop (mkF m 83 #[.val (.int vh1), .val (.int vh2), .val (.int ve1), .val (.int ve2), .val (.int ve3), .val (.int vw), .val (.int va), .val (.int vb), .val (.int vc), .val (.ref b78), .val (.int (own_home vh1)), .val (.int (own_home vh2)), .unset, .unset, .unset, .unset, .unset, .unset] [(.int vw)]))
      refine OGo.on (fun t k => XS.iconst X141.here hx rfl (hb hby at_83) k) ?_
      show OGo p e below s _ _ _ (T141.setTop (mkF m 84 #[.val (.int vh1), .val (.int vh2), .val (.int ve1), .val (.int ve2), .val (.int ve3), .val (.int vw), .val (.int va), .val (.int vb), .val (.int vc), .val (.ref b78), .val (.int (own_home vh1)), .val (.int (own_home vh2)), .unset, .unset, .unset, .unset, .unset, .unset] [(.int (1 : Int32)), (.int vw)]))
      refine OGo.on (fun t k => XS.iand X141.here hx rfl (hb hby at_84) rfl k) ?_
      show OGo p e below s _ _ _ (T141.setTop (mkF m 85 #[.val (.int vh1), .val (.int vh2), .val (.int ve1), .val (.int ve2), .val (.int ve3), .val (.int vw), .val (.int va), .val (.int vb), .val (.int vc), .val (.ref b78), .val (.int (own_home vh1)), .val (.int (own_home vh2)), .unset, .unset, .unset, .unset, .unset, .unset] [(.int (vw &&& (1 : Int32)))]))
      by_cases hc144 : (vw &&& (1 : Int32)) = (0 : Int32)
      · refine OGo.on (fun t k => XS.ifYes X141.here hx rfl (pc0 := 85) (pc' := 92) rfl (hb hby at_85) rfl ((if0 _ _).trans (teq hc144).1) (by decide) (by decide) k) ?_
        show OGo p e below s _ _ _ (T141.setTop (mkF m 92 #[.val (.int vh1), .val (.int vh2), .val (.int ve1), .val (.int ve2), .val (.int ve3), .val (.int vw), .val (.int va), .val (.int vb), .val (.int vc), .val (.ref b78), .val (.int (own_home vh1)), .val (.int (own_home vh2)), .unset, .unset, .unset, .unset, .unset, .unset] []))
        refine OGo.on (fun t k => XS.iconst X141.here hx rfl (hb hby at_92) k) ?_
        show OGo p e below s _ _ _ (T141.setTop (mkF m 93 #[.val (.int vh1), .val (.int vh2), .val (.int ve1), .val (.int ve2), .val (.int ve3), .val (.int vw), .val (.int va), .val (.int vb), .val (.int vc), .val (.ref b78), .val (.int (own_home vh1)), .val (.int (own_home vh2)), .unset, .unset, .unset, .unset, .unset, .unset] [(.int (0 : Int32))]))
        refine OGo.on (fun t k => XS.istore X141.here hx rfl (hb hby at_93) rfl (l' := #[.val (.int vh1), .val (.int vh2), .val (.int ve1), .val (.int ve2), .val (.int ve3), .val (.int vw), .val (.int va), .val (.int vb), .val (.int vc), .val (.ref b78), .val (.int (own_home vh1)), .val (.int (own_home vh2)), .val (.int (0 : Int32)), .unset, .unset, .unset, .unset, .unset]) rfl k) ?_
        show OGo p e below s _ _ _ (T141.setTop (mkF m 95 #[.val (.int vh1), .val (.int vh2), .val (.int ve1), .val (.int ve2), .val (.int ve3), .val (.int vw), .val (.int va), .val (.int vb), .val (.int vc), .val (.ref b78), .val (.int (own_home vh1)), .val (.int (own_home vh2)), .val (.int (0 : Int32)), .unset, .unset, .unset, .unset, .unset] []))
        refine OGo.on (fun t k => XS.iload X141.here hx rfl (hb hby at_95) rfl k) ?_
        show OGo p e below s _ _ _ (T141.setTop (mkF m 97 #[.val (.int vh1), .val (.int vh2), .val (.int ve1), .val (.int ve2), .val (.int ve3), .val (.int vw), .val (.int va), .val (.int vb), .val (.int vc), .val (.ref b78), .val (.int (own_home vh1)), .val (.int (own_home vh2)), .val (.int (0 : Int32)), .unset, .unset, .unset, .unset, .unset] [(.int (0 : Int32))]))
        refine OGo.on (fun t k => XS.ifYes X141.here hx rfl (pc0 := 97) (pc' := 105) rfl (hb hby at_97) rfl ((if0 _ _).trans (teq (by decide)).1) (by decide) (by decide) k) ?_
        show OGo p e below s _ _ _ (T141.setTop (mkF m 105 #[.val (.int vh1), .val (.int vh2), .val (.int ve1), .val (.int ve2), .val (.int ve3), .val (.int vw), .val (.int va), .val (.int vb), .val (.int vc), .val (.ref b78), .val (.int (own_home vh1)), .val (.int (own_home vh2)), .val (.int (0 : Int32)), .unset, .unset, .unset, .unset, .unset] []))
        refine OGo.on (fun t k => XS.iload X141.here hx rfl (hb hby at_105) rfl k) ?_
        show OGo p e below s _ _ _ (T141.setTop (mkF m 107 #[.val (.int vh1), .val (.int vh2), .val (.int ve1), .val (.int ve2), .val (.int ve3), .val (.int vw), .val (.int va), .val (.int vb), .val (.int vc), .val (.ref b78), .val (.int (own_home vh1)), .val (.int (own_home vh2)), .val (.int (0 : Int32)), .unset, .unset, .unset, .unset, .unset] [(.int (own_home vh1))]))
        refine OGo.on (fun t k => XS.istore X141.here hx rfl (hb hby at_107) rfl (l' := #[.val (.int vh1), .val (.int vh2), .val (.int ve1), .val (.int ve2), .val (.int ve3), .val (.int vw), .val (.int va), .val (.int vb), .val (.int vc), .val (.ref b78), .val (.int (own_home vh1)), .val (.int (own_home vh2)), .val (.int (0 : Int32)), .val (.int (own_home vh1)), .unset, .unset, .unset, .unset]) rfl k) ?_
        show OGo p e below s _ _ _ (T141.setTop (mkF m 109 #[.val (.int vh1), .val (.int vh2), .val (.int ve1), .val (.int ve2), .val (.int ve3), .val (.int vw), .val (.int va), .val (.int vb), .val (.int vc), .val (.ref b78), .val (.int (own_home vh1)), .val (.int (own_home vh2)), .val (.int (0 : Int32)), .val (.int (own_home vh1)), .unset, .unset, .unset, .unset] []))
        refine OGo.on (fun t k => XS.iload X141.here hx rfl (hb hby at_109) rfl k) ?_
        show OGo p e below s _ _ _ (T141.setTop (mkF m 111 #[.val (.int vh1), .val (.int vh2), .val (.int ve1), .val (.int ve2), .val (.int ve3), .val (.int vw), .val (.int va), .val (.int vb), .val (.int vc), .val (.ref b78), .val (.int (own_home vh1)), .val (.int (own_home vh2)), .val (.int (0 : Int32)), .val (.int (own_home vh1)), .unset, .unset, .unset, .unset] [(.int (0 : Int32))]))
        refine OGo.on (fun t k => XS.ifYes X141.here hx rfl (pc0 := 111) (pc' := 119) rfl (hb hby at_111) rfl ((if0 _ _).trans (teq (by decide)).1) (by decide) (by decide) k) ?_
        show OGo p e below s _ _ _ (T141.setTop (mkF m 119 #[.val (.int vh1), .val (.int vh2), .val (.int ve1), .val (.int ve2), .val (.int ve3), .val (.int vw), .val (.int va), .val (.int vb), .val (.int vc), .val (.ref b78), .val (.int (own_home vh1)), .val (.int (own_home vh2)), .val (.int (0 : Int32)), .val (.int (own_home vh1)), .unset, .unset, .unset, .unset] []))
        refine OGo.on (fun t k => XS.iload X141.here hx rfl (hb hby at_119) rfl k) ?_
        show OGo p e below s _ _ _ (T141.setTop (mkF m 121 #[.val (.int vh1), .val (.int vh2), .val (.int ve1), .val (.int ve2), .val (.int ve3), .val (.int vw), .val (.int va), .val (.int vb), .val (.int vc), .val (.ref b78), .val (.int (own_home vh1)), .val (.int (own_home vh2)), .val (.int (0 : Int32)), .val (.int (own_home vh1)), .unset, .unset, .unset, .unset] [(.int (own_home vh2))]))
        refine OGo.on (fun t k => XS.istore X141.here hx rfl (hb hby at_121) rfl (l' := #[.val (.int vh1), .val (.int vh2), .val (.int ve1), .val (.int ve2), .val (.int ve3), .val (.int vw), .val (.int va), .val (.int vb), .val (.int vc), .val (.ref b78), .val (.int (own_home vh1)), .val (.int (own_home vh2)), .val (.int (0 : Int32)), .val (.int (own_home vh1)), .val (.int (own_home vh2)), .unset, .unset, .unset]) rfl k) ?_
        show OGo p e below s _ _ _ (T141.setTop (mkF m 123 #[.val (.int vh1), .val (.int vh2), .val (.int ve1), .val (.int ve2), .val (.int ve3), .val (.int vw), .val (.int va), .val (.int vb), .val (.int vc), .val (.ref b78), .val (.int (own_home vh1)), .val (.int (own_home vh2)), .val (.int (0 : Int32)), .val (.int (own_home vh1)), .val (.int (own_home vh2)), .unset, .unset, .unset] []))
        refine OGo.on (fun t k => XS.iload X141.here hx rfl (hb hby at_123) rfl k) ?_
        show OGo p e below s _ _ _ (T141.setTop (mkF m 125 #[.val (.int vh1), .val (.int vh2), .val (.int ve1), .val (.int ve2), .val (.int ve3), .val (.int vw), .val (.int va), .val (.int vb), .val (.int vc), .val (.ref b78), .val (.int (own_home vh1)), .val (.int (own_home vh2)), .val (.int (0 : Int32)), .val (.int (own_home vh1)), .val (.int (own_home vh2)), .unset, .unset, .unset] [(.int (0 : Int32))]))
        refine OGo.on (fun t k => XS.ifYes X141.here hx rfl (pc0 := 125) (pc' := 132) rfl (hb hby at_125) rfl ((if0 _ _).trans (teq (by decide)).1) (by decide) (by decide) k) ?_
        show OGo p e below s _ _ _ (T141.setTop (mkF m 132 #[.val (.int vh1), .val (.int vh2), .val (.int ve1), .val (.int ve2), .val (.int ve3), .val (.int vw), .val (.int va), .val (.int vb), .val (.int vc), .val (.ref b78), .val (.int (own_home vh1)), .val (.int (own_home vh2)), .val (.int (0 : Int32)), .val (.int (own_home vh1)), .val (.int (own_home vh2)), .unset, .unset, .unset] []))
        refine OGo.on (fun t k => XS.iloadN X141.here hx rfl (hb hby at_132) rfl k) ?_
        show OGo p e below s _ _ _ (T141.setTop (mkF m 133 #[.val (.int vh1), .val (.int vh2), .val (.int ve1), .val (.int ve2), .val (.int ve3), .val (.int vw), .val (.int va), .val (.int vb), .val (.int vc), .val (.ref b78), .val (.int (own_home vh1)), .val (.int (own_home vh2)), .val (.int (0 : Int32)), .val (.int (own_home vh1)), .val (.int (own_home vh2)), .unset, .unset, .unset] [(.int vh1)]))
        refine OGo.on (fun t k => XS.istore X141.here hx rfl (hb hby at_133) rfl (l' := #[.val (.int vh1), .val (.int vh2), .val (.int ve1), .val (.int ve2), .val (.int ve3), .val (.int vw), .val (.int va), .val (.int vb), .val (.int vc), .val (.ref b78), .val (.int (own_home vh1)), .val (.int (own_home vh2)), .val (.int (0 : Int32)), .val (.int (own_home vh1)), .val (.int (own_home vh2)), .val (.int vh1), .unset, .unset]) rfl k) ?_
        show OGo p e below s _ _ _ (T141.setTop (mkF m 135 #[.val (.int vh1), .val (.int vh2), .val (.int ve1), .val (.int ve2), .val (.int ve3), .val (.int vw), .val (.int va), .val (.int vb), .val (.int vc), .val (.ref b78), .val (.int (own_home vh1)), .val (.int (own_home vh2)), .val (.int (0 : Int32)), .val (.int (own_home vh1)), .val (.int (own_home vh2)), .val (.int vh1), .unset, .unset] []))
        refine OGo.on (fun t k => XS.iload X141.here hx rfl (hb hby at_135) rfl k) ?_
        show OGo p e below s _ _ _ (T141.setTop (mkF m 137 #[.val (.int vh1), .val (.int vh2), .val (.int ve1), .val (.int ve2), .val (.int ve3), .val (.int vw), .val (.int va), .val (.int vb), .val (.int vc), .val (.ref b78), .val (.int (own_home vh1)), .val (.int (own_home vh2)), .val (.int (0 : Int32)), .val (.int (own_home vh1)), .val (.int (own_home vh2)), .val (.int vh1), .unset, .unset] [(.int (0 : Int32))]))
        refine OGo.on (fun t k => XS.ifYes X141.here hx rfl (pc0 := 137) (pc' := 145) rfl (hb hby at_137) rfl ((if0 _ _).trans (teq (by decide)).1) (by decide) (by decide) k) ?_
        show OGo p e below s _ _ _ (T141.setTop (mkF m 145 #[.val (.int vh1), .val (.int vh2), .val (.int ve1), .val (.int ve2), .val (.int ve3), .val (.int vw), .val (.int va), .val (.int vb), .val (.int vc), .val (.ref b78), .val (.int (own_home vh1)), .val (.int (own_home vh2)), .val (.int (0 : Int32)), .val (.int (own_home vh1)), .val (.int (own_home vh2)), .val (.int vh1), .unset, .unset] []))
        refine OGo.on (fun t k => XS.iload X141.here hx rfl (hb hby at_145) rfl k) ?_
        show OGo p e below s _ _ _ (T141.setTop (mkF m 147 #[.val (.int vh1), .val (.int vh2), .val (.int ve1), .val (.int ve2), .val (.int ve3), .val (.int vw), .val (.int va), .val (.int vb), .val (.int vc), .val (.ref b78), .val (.int (own_home vh1)), .val (.int (own_home vh2)), .val (.int (0 : Int32)), .val (.int (own_home vh1)), .val (.int (own_home vh2)), .val (.int vh1), .unset, .unset] [(.int vb)]))
        refine OGo.on (fun t k => XS.istore X141.here hx rfl (hb hby at_147) rfl (l' := #[.val (.int vh1), .val (.int vh2), .val (.int ve1), .val (.int ve2), .val (.int ve3), .val (.int vw), .val (.int va), .val (.int vb), .val (.int vc), .val (.ref b78), .val (.int (own_home vh1)), .val (.int (own_home vh2)), .val (.int (0 : Int32)), .val (.int (own_home vh1)), .val (.int (own_home vh2)), .val (.int vh1), .val (.int vb), .unset]) rfl k) ?_
        show OGo p e below s _ _ _ (T141.setTop (mkF m 149 #[.val (.int vh1), .val (.int vh2), .val (.int ve1), .val (.int ve2), .val (.int ve3), .val (.int vw), .val (.int va), .val (.int vb), .val (.int vc), .val (.ref b78), .val (.int (own_home vh1)), .val (.int (own_home vh2)), .val (.int (0 : Int32)), .val (.int (own_home vh1)), .val (.int (own_home vh2)), .val (.int vh1), .val (.int vb), .unset] []))
        refine OGo.on (fun t k => XS.aload X141.here hx rfl (hb hby at_149) rfl rfl k) ?_
        show OGo p e below s _ _ _ (T141.setTop (mkF m 151 #[.val (.int vh1), .val (.int vh2), .val (.int ve1), .val (.int ve2), .val (.int ve3), .val (.int vw), .val (.int va), .val (.int vb), .val (.int vc), .val (.ref b78), .val (.int (own_home vh1)), .val (.int (own_home vh2)), .val (.int (0 : Int32)), .val (.int (own_home vh1)), .val (.int (own_home vh2)), .val (.int vh1), .val (.int vb), .unset] [(.ref b78)]))
        refine OGo.on (fun t k => XS.iload X141.here hx rfl (hb hby at_151) rfl k) ?_
        show OGo p e below s _ _ _ (T141.setTop (mkF m 153 #[.val (.int vh1), .val (.int vh2), .val (.int ve1), .val (.int ve2), .val (.int ve3), .val (.int vw), .val (.int va), .val (.int vb), .val (.int vc), .val (.ref b78), .val (.int (own_home vh1)), .val (.int (own_home vh2)), .val (.int (0 : Int32)), .val (.int (own_home vh1)), .val (.int (own_home vh2)), .val (.int vh1), .val (.int vb), .unset] [(.int (own_home vh1)), (.ref b78)]))
        refine OGo.on (fun t k => XS.iload X141.here hx rfl (hb hby at_153) rfl k) ?_
        show OGo p e below s _ _ _ (T141.setTop (mkF m 155 #[.val (.int vh1), .val (.int vh2), .val (.int ve1), .val (.int ve2), .val (.int ve3), .val (.int vw), .val (.int va), .val (.int vb), .val (.int vc), .val (.ref b78), .val (.int (own_home vh1)), .val (.int (own_home vh2)), .val (.int (0 : Int32)), .val (.int (own_home vh1)), .val (.int (own_home vh2)), .val (.int vh1), .val (.int vb), .unset] [(.int vc), (.int (own_home vh1)), (.ref b78)]))
        obtain ⟨cq145, kq145, q145a, q145b, q145c⟩ := isOf hZ rfl f142
        obtain ⟨_, _, ⟨T145, L145, k145, n145⟩, -, X145, ⟨Lc145, hQ145, l145, y145, z145⟩, st145⟩ := X141.virtualBack hx (y := (⟨"com/example/metrilog/metrilog/Slots", "replace", "(II)V"⟩ : MethodName)) (z := (⟨"com/example/metrilog/metrilog/Slots", "replace", "(II)V"⟩ : MethodName)) hown (mvT hZ (hw _ (List.mem_of_getElem? (i := 46) rfl))) (mvT hZ (hw _ (List.mem_of_getElem? (i := 47) rfl))) (notFace_of_selects (args := #[]) (mvT hZ (hw _ (List.mem_of_getElem? (i := 49) rfl)))) (mvT hZ (hw _ (List.mem_of_getElem? (i := 49) rfl))) (mvT hZ (hw _ (List.mem_of_getElem? (i := 48) rfl))) (by decide) (backOf (W := 0) (own_mrep l Z a0 hw [] b78 rb (([(0 : Int64), 0, 0, 0, 0, 0, 0, 0, 0, 0, 0, 0, 0, 0, 0, 0].set (own_home vh1).toNatClampNeg (own_val vh1 va)).set (own_home vh2).toNatClampNeg (own_val vh2 vb)) (own_home vh1) vc (own_val vh1 va) T141.heap n0 Z143 g_rb hab Fs141 Ar141 (own_len (own_len rfl)) (in_home vh1) (own_other (own_same (in_home vh1) rfl) (in_home vh2) (in_home vh1) hh116)) hZ (hw _ (List.mem_of_getElem? (i := 50) rfl)) (hw _ (List.mem_of_getElem? (i := 3) rfl)) (by decide) (by decide)) q145a q145c (g := (mkF m 155 #[.val (.int vh1), .val (.int vh2), .val (.int ve1), .val (.int ve2), .val (.int ve3), .val (.int vw), .val (.int va), .val (.int vb), .val (.int vc), .val (.ref b78), .val (.int (own_home vh1)), .val (.int (own_home vh2)), .val (.int (0 : Int32)), .val (.int (own_home vh1)), .val (.int (own_home vh2)), .val (.int vh1), .val (.int vb), .unset] [(.int vc), (.int (own_home vh1)), (.ref b78)])) rfl (by rw [hml]; rfl) (Steps.refl _) (argsL := [(.int (own_home vh1)), (.int vc)]) (rest := []) (lenOf own_pd5 rfl) rfl (by show 2 * 0 + _ ≤ _; exact Nat.le_of_eq rfl) (hb hby at_155) (fun _ _ => ⟨rfl, rfl, (by decide : 2 + 0 ≤ _), (by decide : 19 + 0 ≤ _)⟩)
        dsimp only [Pt.U, Pt.locs, Pt.cells, Pt.slots] at X145 l145 y145 z145 st145 hQ145
        subst l145 y145 z145
        obtain ⟨rfl, N145q, K145, Ar145⟩ := hQ145
        have N145 := Fr.app N141 N145q
        rw [own_rv hva hvc] at Ar145
        have f146 : Exa Z T145.heap b78 "com/example/metrilog/metrilog/Slots" := f142.keep K145
        have f147 : Fld Z T145.heap b78 "com/example/metrilog/metrilog/Slots" "slots" "[J" (.ref rb) := Fs141.keep K145 (own_nm1 hab)
        have f148 : Fld Z T145.heap b78 "com/example/metrilog/metrilog/Slots" "shift" "I" (.int (28 : Int32)) := Fh141.keep K145 (own_nm1 hab)
        have f149 : Fld Z T145.heap b78 "com/example/metrilog/metrilog/Slots" "filled" "I" (.int (2 : Int32)) := Fg141.keep K145 (own_nm1 hab)
        have Z150 : n0 ≤ T145.heap.size := Nat.le_trans Z143 K145.1
        refine OGo.on (fun t k => st145.trans k) ?_
        show OGo p e below s _ _ _ (T145.setTop (mkF m 158 #[.val (.int vh1), .val (.int vh2), .val (.int ve1), .val (.int ve2), .val (.int ve3), .val (.int vw), .val (.int va), .val (.int vb), .val (.int vc), .val (.ref b78), .val (.int (own_home vh1)), .val (.int (own_home vh2)), .val (.int (0 : Int32)), .val (.int (own_home vh1)), .val (.int (own_home vh2)), .val (.int vh1), .val (.int vb), .unset] []))
        refine OGo.on (fun t k => XS.aload X145.here hx rfl (hb hby at_158) rfl rfl k) ?_
        show OGo p e below s _ _ _ (T145.setTop (mkF m 160 #[.val (.int vh1), .val (.int vh2), .val (.int ve1), .val (.int ve2), .val (.int ve3), .val (.int vw), .val (.int va), .val (.int vb), .val (.int vc), .val (.ref b78), .val (.int (own_home vh1)), .val (.int (own_home vh2)), .val (.int (0 : Int32)), .val (.int (own_home vh1)), .val (.int (own_home vh2)), .val (.int vh1), .val (.int vb), .unset] [(.ref b78)]))
        refine OGo.on (fun t k => XS.iload X145.here hx rfl (hb hby at_160) rfl k) ?_
        show OGo p e below s _ _ _ (T145.setTop (mkF m 162 #[.val (.int vh1), .val (.int vh2), .val (.int ve1), .val (.int ve2), .val (.int ve3), .val (.int vw), .val (.int va), .val (.int vb), .val (.int vc), .val (.ref b78), .val (.int (own_home vh1)), .val (.int (own_home vh2)), .val (.int (0 : Int32)), .val (.int (own_home vh1)), .val (.int (own_home vh2)), .val (.int vh1), .val (.int vb), .unset] [(.int vh1), (.ref b78)]))
        obtain ⟨cq151, kq151, q151a, q151b, q151c⟩ := isOf hZ rfl f146
        obtain ⟨_, _, ⟨T151, L151, k151, n151⟩, -, X151, ⟨Lc151, hQ151, l151, y151, z151⟩, st151⟩ := X145.virtualBack hx (y := (⟨"com/example/metrilog/metrilog/Slots", "first", "(I)I"⟩ : MethodName)) (z := (⟨"com/example/metrilog/metrilog/Slots", "first", "(I)I"⟩ : MethodName)) hown (mvT hZ (hw _ (List.mem_of_getElem? (i := 22) rfl))) (mvT hZ (hw _ (List.mem_of_getElem? (i := 23) rfl))) (notFace_of_selects (args := #[]) (mvT hZ (hw _ (List.mem_of_getElem? (i := 25) rfl)))) (mvT hZ (hw _ (List.mem_of_getElem? (i := 25) rfl))) (mvT hZ (hw _ (List.mem_of_getElem? (i := 24) rfl))) (by decide) (backOf (W := 0) (own_first0 l Z a0 hw [] b78 rb ((([(0 : Int64), 0, 0, 0, 0, 0, 0, 0, 0, 0, 0, 0, 0, 0, 0, 0].set (own_home vh1).toNatClampNeg (own_val vh1 va)).set (own_home vh2).toNatClampNeg (own_val vh2 vb)).set (own_home vh1).toNatClampNeg (own_val vh1 vc)) vh1 (own_val vh1 vc) T145.heap n0 Z150 f146 f147 f148 Ar145 (own_len (own_len (own_len rfl))) (own_same (in_home vh1) (own_len (own_len rfl))) (fun _ => own_hv hvc)) hZ (hw _ (List.mem_of_getElem? (i := 26) rfl)) (hw _ (List.mem_of_getElem? (i := 3) rfl)) (by decide) (by decide)) q151a q151c (g := (mkF m 162 #[.val (.int vh1), .val (.int vh2), .val (.int ve1), .val (.int ve2), .val (.int ve3), .val (.int vw), .val (.int va), .val (.int vb), .val (.int vc), .val (.ref b78), .val (.int (own_home vh1)), .val (.int (own_home vh2)), .val (.int (0 : Int32)), .val (.int (own_home vh1)), .val (.int (own_home vh2)), .val (.int vh1), .val (.int vb), .unset] [(.int vh1), (.ref b78)])) rfl (by rw [hml]; rfl) (Steps.refl _) (argsL := [(.int vh1)]) (rest := []) (lenOf own_pd1 rfl) rfl (by show 2 * 0 + _ ≤ _; exact Nat.le_of_eq rfl) (hb hby at_162) (fun _ _ => ⟨rfl, rfl, (by decide : 2 + 0 ≤ _), (by decide : 19 + 0 ≤ _)⟩)
        dsimp only [Pt.U, Pt.locs, Pt.cells, Pt.slots] at X151 l151 y151 z151 st151 hQ151
        subst l151 y151 z151
        obtain ⟨rfl, N151q, e151⟩ := hQ151
        have N151 := Fr.app N145 N151q
        refine OGo.on (fun t k => st151.trans k) ?_
        show OGo p e below s _ _ _ (T151.setTop (mkF m 165 #[.val (.int vh1), .val (.int vh2), .val (.int ve1), .val (.int ve2), .val (.int ve3), .val (.int vw), .val (.int va), .val (.int vb), .val (.int vc), .val (.ref b78), .val (.int (own_home vh1)), .val (.int (own_home vh2)), .val (.int (0 : Int32)), .val (.int (own_home vh1)), .val (.int (own_home vh2)), .val (.int vh1), .val (.int vb), .unset] [(.int (own_home vh1))]))
        refine OGo.on (fun t k => XS.istore X151.here hx rfl (hb hby at_165) rfl (l' := #[.val (.int vh1), .val (.int vh2), .val (.int ve1), .val (.int ve2), .val (.int ve3), .val (.int vw), .val (.int va), .val (.int vb), .val (.int vc), .val (.ref b78), .val (.int (own_home vh1)), .val (.int (own_home vh2)), .val (.int (0 : Int32)), .val (.int (own_home vh1)), .val (.int (own_home vh2)), .val (.int vh1), .val (.int vb), .val (.int (own_home vh1))]) rfl k) ?_
        show OGo p e below s _ _ _ (T151.setTop (mkF m 167 #[.val (.int vh1), .val (.int vh2), .val (.int ve1), .val (.int ve2), .val (.int ve3), .val (.int vw), .val (.int va), .val (.int vb), .val (.int vc), .val (.ref b78), .val (.int (own_home vh1)), .val (.int (own_home vh2)), .val (.int (0 : Int32)), .val (.int (own_home vh1)), .val (.int (own_home vh2)), .val (.int vh1), .val (.int vb), .val (.int (own_home vh1))] []))
        refine OGo.on (fun t k => XS.iload X151.here hx rfl (hb hby at_167) rfl k) ?_
        show OGo p e below s _ _ _ (T151.setTop (mkF m 169 #[.val (.int vh1), .val (.int vh2), .val (.int ve1), .val (.int ve2), .val (.int ve3), .val (.int vw), .val (.int va), .val (.int vb), .val (.int vc), .val (.ref b78), .val (.int (own_home vh1)), .val (.int (own_home vh2)), .val (.int (0 : Int32)), .val (.int (own_home vh1)), .val (.int (own_home vh2)), .val (.int vh1), .val (.int vb), .val (.int (own_home vh1))] [(.int (own_home vh1))]))
        refine OGo.on (fun t k => XS.iload X151.here hx rfl (hb hby at_169) rfl k) ?_
        show OGo p e below s _ _ _ (T151.setTop (mkF m 171 #[.val (.int vh1), .val (.int vh2), .val (.int ve1), .val (.int ve2), .val (.int ve3), .val (.int vw), .val (.int va), .val (.int vb), .val (.int vc), .val (.ref b78), .val (.int (own_home vh1)), .val (.int (own_home vh2)), .val (.int (0 : Int32)), .val (.int (own_home vh1)), .val (.int (own_home vh2)), .val (.int vh1), .val (.int vb), .val (.int (own_home vh1))] [(.int (own_home vh1)), (.int (own_home vh1))]))
        refine OGo.on (fun t k => XS.icmpYes X151.here hx rfl (pc0 := 171) (pc' := 185) rfl (hb hby at_171) rfl (teq rfl).1 (by decide) (by decide) k) ?_
        show OGo p e below s _ _ _ (T151.setTop (mkF m 185 #[.val (.int vh1), .val (.int vh2), .val (.int ve1), .val (.int ve2), .val (.int ve3), .val (.int vw), .val (.int va), .val (.int vb), .val (.int vc), .val (.ref b78), .val (.int (own_home vh1)), .val (.int (own_home vh2)), .val (.int (0 : Int32)), .val (.int (own_home vh1)), .val (.int (own_home vh2)), .val (.int vh1), .val (.int vb), .val (.int (own_home vh1))] []))
        refine OGo.on (fun t k => XS.iload X151.here hx rfl (hb hby at_185) rfl k) ?_
        show OGo p e below s _ _ _ (T151.setTop (mkF m 187 #[.val (.int vh1), .val (.int vh2), .val (.int ve1), .val (.int ve2), .val (.int ve3), .val (.int vw), .val (.int va), .val (.int vb), .val (.int vc), .val (.ref b78), .val (.int (own_home vh1)), .val (.int (own_home vh2)), .val (.int (0 : Int32)), .val (.int (own_home vh1)), .val (.int (own_home vh2)), .val (.int vh1), .val (.int vb), .val (.int (own_home vh1))] [(.int (own_home vh1))]))
        refine OGo.on (fun t k => XS.iload X151.here hx rfl (hb hby at_187) rfl k) ?_
        show OGo p e below s _ _ _ (T151.setTop (mkF m 189 #[.val (.int vh1), .val (.int vh2), .val (.int ve1), .val (.int ve2), .val (.int ve3), .val (.int vw), .val (.int va), .val (.int vb), .val (.int vc), .val (.ref b78), .val (.int (own_home vh1)), .val (.int (own_home vh2)), .val (.int (0 : Int32)), .val (.int (own_home vh1)), .val (.int (own_home vh2)), .val (.int vh1), .val (.int vb), .val (.int (own_home vh1))] [(.int (own_home vh1)), (.int (own_home vh1))]))
        refine OGo.on (fun t k => XS.icmpNo X151.here hx rfl (hb hby at_189) rfl (teq rfl).2 k) ?_
        show OGo p e below s _ _ _ (T151.setTop (mkF m 192 #[.val (.int vh1), .val (.int vh2), .val (.int ve1), .val (.int ve2), .val (.int ve3), .val (.int vw), .val (.int va), .val (.int vb), .val (.int vc), .val (.ref b78), .val (.int (own_home vh1)), .val (.int (own_home vh2)), .val (.int (0 : Int32)), .val (.int (own_home vh1)), .val (.int (own_home vh2)), .val (.int vh1), .val (.int vb), .val (.int (own_home vh1))] []))
        refine OGo.on (fun t k => XS.aload X151.here hx rfl (hb hby at_192) rfl rfl k) ?_
        show OGo p e below s _ _ _ (T151.setTop (mkF m 194 #[.val (.int vh1), .val (.int vh2), .val (.int ve1), .val (.int ve2), .val (.int ve3), .val (.int vw), .val (.int va), .val (.int vb), .val (.int vc), .val (.ref b78), .val (.int (own_home vh1)), .val (.int (own_home vh2)), .val (.int (0 : Int32)), .val (.int (own_home vh1)), .val (.int (own_home vh2)), .val (.int vh1), .val (.int vb), .val (.int (own_home vh1))] [(.ref b78)]))
        refine OGo.on (fun t k => XS.iload X151.here hx rfl (hb hby at_194) rfl k) ?_
        show OGo p e below s _ _ _ (T151.setTop (mkF m 196 #[.val (.int vh1), .val (.int vh2), .val (.int ve1), .val (.int ve2), .val (.int ve3), .val (.int vw), .val (.int va), .val (.int vb), .val (.int vc), .val (.ref b78), .val (.int (own_home vh1)), .val (.int (own_home vh2)), .val (.int (0 : Int32)), .val (.int (own_home vh1)), .val (.int (own_home vh2)), .val (.int vh1), .val (.int vb), .val (.int (own_home vh1))] [(.int (own_home vh1)), (.ref b78)]))
        obtain ⟨cq152, kq152, q152a, q152b, q152c⟩ := isOf hZ e151 f146
        obtain ⟨_, _, ⟨T152, L152, k152, n152⟩, -, X152, ⟨Lc152, hQ152, l152, y152, z152⟩, st152⟩ := X151.virtualBack hx (y := (⟨"com/example/metrilog/metrilog/Slots", "entry", "(I)I"⟩ : MethodName)) (z := (⟨"com/example/metrilog/metrilog/Slots", "entry", "(I)I"⟩ : MethodName)) hown (mvT hZ (hw _ (List.mem_of_getElem? (i := 52) rfl))) (mvT hZ (hw _ (List.mem_of_getElem? (i := 53) rfl))) (notFace_of_selects (args := #[]) (mvT hZ (hw _ (List.mem_of_getElem? (i := 55) rfl)))) (mvT hZ (hw _ (List.mem_of_getElem? (i := 55) rfl))) (mvT hZ (hw _ (List.mem_of_getElem? (i := 54) rfl))) (by decide) (backOf (W := 0) (own_mentry l Z a0 hw [] b78 rb ((([(0 : Int64), 0, 0, 0, 0, 0, 0, 0, 0, 0, 0, 0, 0, 0, 0, 0].set (own_home vh1).toNatClampNeg (own_val vh1 va)).set (own_home vh2).toNatClampNeg (own_val vh2 vb)).set (own_home vh1).toNatClampNeg (own_val vh1 vc)) (own_home vh1) (own_val vh1 vc) T145.heap n0 Z150 f147 Ar145 (own_len (own_len (own_len rfl))) (own_same (in_home vh1) (own_len (own_len rfl)))) hZ (hw _ (List.mem_of_getElem? (i := 56) rfl)) (hw _ (List.mem_of_getElem? (i := 3) rfl)) (by decide) (by decide)) q152a q152c (g := (mkF m 196 #[.val (.int vh1), .val (.int vh2), .val (.int ve1), .val (.int ve2), .val (.int ve3), .val (.int vw), .val (.int va), .val (.int vb), .val (.int vc), .val (.ref b78), .val (.int (own_home vh1)), .val (.int (own_home vh2)), .val (.int (0 : Int32)), .val (.int (own_home vh1)), .val (.int (own_home vh2)), .val (.int vh1), .val (.int vb), .val (.int (own_home vh1))] [(.int (own_home vh1)), (.ref b78)])) rfl (by rw [hml]; rfl) (Steps.refl _) (argsL := [(.int (own_home vh1))]) (rest := []) (lenOf own_pd1 rfl) rfl (by show 2 * 0 + _ ≤ _; exact Nat.le_of_eq rfl) (hb hby at_196) (fun _ _ => ⟨rfl, e151, (by decide : 2 + 0 ≤ _), (by decide : 19 + 0 ≤ _)⟩)
        dsimp only [Pt.U, Pt.locs, Pt.cells, Pt.slots] at X152 l152 y152 z152 st152 hQ152
        subst l152 y152 z152
        obtain ⟨rfl, N152q, e152⟩ := hQ152
        have N152 := Fr.app N151 N152q
        refine OGo.on (fun t k => st152.trans k) ?_
        show OGo p e below s _ _ _ (T152.setTop (mkF m 199 #[.val (.int vh1), .val (.int vh2), .val (.int ve1), .val (.int ve2), .val (.int ve3), .val (.int vw), .val (.int va), .val (.int vb), .val (.int vc), .val (.ref b78), .val (.int (own_home vh1)), .val (.int (own_home vh2)), .val (.int (0 : Int32)), .val (.int (own_home vh1)), .val (.int (own_home vh2)), .val (.int vh1), .val (.int vb), .val (.int (own_home vh1))] [(.int (own_entry (own_val vh1 vc)))]))
        refine OGo.on (fun t k => XS.iload X152.here hx rfl (hb hby at_199) rfl k) ?_
        show OGo p e below s _ _ _ (T152.setTop (mkF m 201 #[.val (.int vh1), .val (.int vh2), .val (.int ve1), .val (.int ve2), .val (.int ve3), .val (.int vw), .val (.int va), .val (.int vb), .val (.int vc), .val (.ref b78), .val (.int (own_home vh1)), .val (.int (own_home vh2)), .val (.int (0 : Int32)), .val (.int (own_home vh1)), .val (.int (own_home vh2)), .val (.int vh1), .val (.int vb), .val (.int (own_home vh1))] [(.int vc), (.int (own_entry (own_val vh1 vc)))]))
        refine OGo.on (fun t k => XS.icmpNo X152.here hx rfl (hb hby at_201) rfl (teq (own_ev hvc)).2 k) ?_
        show OGo p e below s _ _ _ (T152.setTop (mkF m 204 #[.val (.int vh1), .val (.int vh2), .val (.int ve1), .val (.int ve2), .val (.int ve3), .val (.int vw), .val (.int va), .val (.int vb), .val (.int vc), .val (.ref b78), .val (.int (own_home vh1)), .val (.int (own_home vh2)), .val (.int (0 : Int32)), .val (.int (own_home vh1)), .val (.int (own_home vh2)), .val (.int vh1), .val (.int vb), .val (.int (own_home vh1))] []))
        refine OGo.on (fun t k => XS.aload X152.here hx rfl (hb hby at_204) rfl rfl k) ?_
        show OGo p e below s _ _ _ (T152.setTop (mkF m 206 #[.val (.int vh1), .val (.int vh2), .val (.int ve1), .val (.int ve2), .val (.int ve3), .val (.int vw), .val (.int va), .val (.int vb), .val (.int vc), .val (.ref b78), .val (.int (own_home vh1)), .val (.int (own_home vh2)), .val (.int (0 : Int32)), .val (.int (own_home vh1)), .val (.int (own_home vh2)), .val (.int vh1), .val (.int vb), .val (.int (own_home vh1))] [(.ref b78)]))
        refine OGo.on (fun t k => XS.iload X152.here hx rfl (hb hby at_206) rfl k) ?_
        show OGo p e below s _ _ _ (T152.setTop (mkF m 208 #[.val (.int vh1), .val (.int vh2), .val (.int ve1), .val (.int ve2), .val (.int ve3), .val (.int vw), .val (.int va), .val (.int vb), .val (.int vc), .val (.ref b78), .val (.int (own_home vh1)), .val (.int (own_home vh2)), .val (.int (0 : Int32)), .val (.int (own_home vh1)), .val (.int (own_home vh2)), .val (.int vh1), .val (.int vb), .val (.int (own_home vh1))] [(.int (own_home vh2)), (.ref b78)]))
        obtain ⟨cq153, kq153, q153a, q153b, q153c⟩ := isOf hZ e152 f146
        obtain ⟨_, _, ⟨T153, L153, k153, n153⟩, -, X153, ⟨Lc153, hQ153, l153, y153, z153⟩, st153⟩ := X152.virtualBack hx (y := (⟨"com/example/metrilog/metrilog/Slots", "entry", "(I)I"⟩ : MethodName)) (z := (⟨"com/example/metrilog/metrilog/Slots", "entry", "(I)I"⟩ : MethodName)) hown (mvT hZ (hw _ (List.mem_of_getElem? (i := 52) rfl))) (mvT hZ (hw _ (List.mem_of_getElem? (i := 53) rfl))) (notFace_of_selects (args := #[]) (mvT hZ (hw _ (List.mem_of_getElem? (i := 55) rfl)))) (mvT hZ (hw _ (List.mem_of_getElem? (i := 55) rfl))) (mvT hZ (hw _ (List.mem_of_getElem? (i := 54) rfl))) (by decide) (backOf (W := 0) (own_mentry l Z a0 hw [] b78 rb ((([(0 : Int64), 0, 0, 0, 0, 0, 0, 0, 0, 0, 0, 0, 0, 0, 0, 0].set (own_home vh1).toNatClampNeg (own_val vh1 va)).set (own_home vh2).toNatClampNeg (own_val vh2 vb)).set (own_home vh1).toNatClampNeg (own_val vh1 vc)) (own_home vh2) (own_val vh2 vb) T145.heap n0 Z150 f147 Ar145 (own_len (own_len (own_len rfl))) (own_other (own_same (in_home vh2) (own_len rfl)) (in_home vh1) (in_home vh2) (Ne.symm hh116))) hZ (hw _ (List.mem_of_getElem? (i := 56) rfl)) (hw _ (List.mem_of_getElem? (i := 3) rfl)) (by decide) (by decide)) q153a q153c (g := (mkF m 208 #[.val (.int vh1), .val (.int vh2), .val (.int ve1), .val (.int ve2), .val (.int ve3), .val (.int vw), .val (.int va), .val (.int vb), .val (.int vc), .val (.ref b78), .val (.int (own_home vh1)), .val (.int (own_home vh2)), .val (.int (0 : Int32)), .val (.int (own_home vh1)), .val (.int (own_home vh2)), .val (.int vh1), .val (.int vb), .val (.int (own_home vh1))] [(.int (own_home vh2)), (.ref b78)])) rfl (by rw [hml]; rfl) (Steps.refl _) (argsL := [(.int (own_home vh2))]) (rest := []) (lenOf own_pd1 rfl) rfl (by show 2 * 0 + _ ≤ _; exact Nat.le_of_eq rfl) (hb hby at_208) (fun _ _ => ⟨rfl, e152, (by decide : 2 + 0 ≤ _), (by decide : 19 + 0 ≤ _)⟩)
        dsimp only [Pt.U, Pt.locs, Pt.cells, Pt.slots] at X153 l153 y153 z153 st153 hQ153
        subst l153 y153 z153
        obtain ⟨rfl, N153q, e153⟩ := hQ153
        have N153 := Fr.app N152 N153q
        refine OGo.on (fun t k => st153.trans k) ?_
        show OGo p e below s _ _ _ (T153.setTop (mkF m 211 #[.val (.int vh1), .val (.int vh2), .val (.int ve1), .val (.int ve2), .val (.int ve3), .val (.int vw), .val (.int va), .val (.int vb), .val (.int vc), .val (.ref b78), .val (.int (own_home vh1)), .val (.int (own_home vh2)), .val (.int (0 : Int32)), .val (.int (own_home vh1)), .val (.int (own_home vh2)), .val (.int vh1), .val (.int vb), .val (.int (own_home vh1))] [(.int (own_entry (own_val vh2 vb)))]))
        refine OGo.on (fun t k => XS.iload X153.here hx rfl (hb hby at_211) rfl k) ?_
        show OGo p e below s _ _ _ (T153.setTop (mkF m 213 #[.val (.int vh1), .val (.int vh2), .val (.int ve1), .val (.int ve2), .val (.int ve3), .val (.int vw), .val (.int va), .val (.int vb), .val (.int vc), .val (.ref b78), .val (.int (own_home vh1)), .val (.int (own_home vh2)), .val (.int (0 : Int32)), .val (.int (own_home vh1)), .val (.int (own_home vh2)), .val (.int vh1), .val (.int vb), .val (.int (own_home vh1))] [(.int vb), (.int (own_entry (own_val vh2 vb)))]))
        refine OGo.on (fun t k => XS.icmpNo X153.here hx rfl (hb hby at_213) rfl (teq (own_ev hvb)).2 k) ?_
        show OGo p e below s _ _ _ (T153.setTop (mkF m 216 #[.val (.int vh1), .val (.int vh2), .val (.int ve1), .val (.int ve2), .val (.int ve3), .val (.int vw), .val (.int va), .val (.int vb), .val (.int vc), .val (.ref b78), .val (.int (own_home vh1)), .val (.int (own_home vh2)), .val (.int (0 : Int32)), .val (.int (own_home vh1)), .val (.int (own_home vh2)), .val (.int vh1), .val (.int vb), .val (.int (own_home vh1))] []))
        refine OGo.on (fun t k => XS.iconst X153.here hx rfl (hb hby at_216) k) ?_
        show OGo p e below s _ _ _ (T153.setTop (mkF m 217 #[.val (.int vh1), .val (.int vh2), .val (.int ve1), .val (.int ve2), .val (.int ve3), .val (.int vw), .val (.int va), .val (.int vb), .val (.int vc), .val (.ref b78), .val (.int (own_home vh1)), .val (.int (own_home vh2)), .val (.int (0 : Int32)), .val (.int (own_home vh1)), .val (.int (own_home vh2)), .val (.int vh1), .val (.int vb), .val (.int (own_home vh1))] [(.int (1 : Int32))]))
        refine OGo.on (fun t k => XS.goto X153.here hx rfl (pc0 := 217) (pc' := 221) rfl (hb hby at_217) (by decide) (by decide) k) ?_
        show OGo p e below s _ _ _ (T153.setTop (mkF m 221 #[.val (.int vh1), .val (.int vh2), .val (.int ve1), .val (.int ve2), .val (.int ve3), .val (.int vw), .val (.int va), .val (.int vb), .val (.int vc), .val (.ref b78), .val (.int (own_home vh1)), .val (.int (own_home vh2)), .val (.int (0 : Int32)), .val (.int (own_home vh1)), .val (.int (own_home vh2)), .val (.int vh1), .val (.int vb), .val (.int (own_home vh1))] [(.int (1 : Int32))]))
        exact OGo.retN X153 hx (t := .boolean) hret hlk (by simp) (hb hby at_221) ⟨rfl, N153⟩ (by decide) (by decide)
      · refine OGo.on (fun t k => XS.ifNo X141.here hx rfl (hb hby at_85) rfl ((if0 _ _).trans (feq hc144).1) k) ?_
        show OGo p e below s _ _ _ (T141.setTop (mkF m 88 #[.val (.int vh1), .val (.int vh2), .val (.int ve1), .val (.int ve2), .val (.int ve3), .val (.int vw), .val (.int va), .val (.int vb), .val (.int vc), .val (.ref b78), .val (.int (own_home vh1)), .val (.int (own_home vh2)), .unset, .unset, .unset, .unset, .unset, .unset] []))
        refine OGo.on (fun t k => XS.iconst X141.here hx rfl (hb hby at_88) k) ?_
        show OGo p e below s _ _ _ (T141.setTop (mkF m 89 #[.val (.int vh1), .val (.int vh2), .val (.int ve1), .val (.int ve2), .val (.int ve3), .val (.int vw), .val (.int va), .val (.int vb), .val (.int vc), .val (.ref b78), .val (.int (own_home vh1)), .val (.int (own_home vh2)), .unset, .unset, .unset, .unset, .unset, .unset] [(.int (1 : Int32))]))
        refine OGo.on (fun t k => XS.goto X141.here hx rfl (pc0 := 89) (pc' := 93) rfl (hb hby at_89) (by decide) (by decide) k) ?_
        show OGo p e below s _ _ _ (T141.setTop (mkF m 93 #[.val (.int vh1), .val (.int vh2), .val (.int ve1), .val (.int ve2), .val (.int ve3), .val (.int vw), .val (.int va), .val (.int vb), .val (.int vc), .val (.ref b78), .val (.int (own_home vh1)), .val (.int (own_home vh2)), .unset, .unset, .unset, .unset, .unset, .unset] [(.int (1 : Int32))]))
        refine OGo.on (fun t k => XS.istore X141.here hx rfl (hb hby at_93) rfl (l' := #[.val (.int vh1), .val (.int vh2), .val (.int ve1), .val (.int ve2), .val (.int ve3), .val (.int vw), .val (.int va), .val (.int vb), .val (.int vc), .val (.ref b78), .val (.int (own_home vh1)), .val (.int (own_home vh2)), .val (.int (1 : Int32)), .unset, .unset, .unset, .unset, .unset]) rfl k) ?_
        show OGo p e below s _ _ _ (T141.setTop (mkF m 95 #[.val (.int vh1), .val (.int vh2), .val (.int ve1), .val (.int ve2), .val (.int ve3), .val (.int vw), .val (.int va), .val (.int vb), .val (.int vc), .val (.ref b78), .val (.int (own_home vh1)), .val (.int (own_home vh2)), .val (.int (1 : Int32)), .unset, .unset, .unset, .unset, .unset] []))
        refine OGo.on (fun t k => XS.iload X141.here hx rfl (hb hby at_95) rfl k) ?_
        show OGo p e below s _ _ _ (T141.setTop (mkF m 97 #[.val (.int vh1), .val (.int vh2), .val (.int ve1), .val (.int ve2), .val (.int ve3), .val (.int vw), .val (.int va), .val (.int vb), .val (.int vc), .val (.ref b78), .val (.int (own_home vh1)), .val (.int (own_home vh2)), .val (.int (1 : Int32)), .unset, .unset, .unset, .unset, .unset] [(.int (1 : Int32))]))
        refine OGo.on (fun t k => XS.ifNo X141.here hx rfl (hb hby at_97) rfl ((if0 _ _).trans (feq (by decide)).1) k) ?_
        show OGo p e below s _ _ _ (T141.setTop (mkF m 100 #[.val (.int vh1), .val (.int vh2), .val (.int ve1), .val (.int ve2), .val (.int ve3), .val (.int vw), .val (.int va), .val (.int vb), .val (.int vc), .val (.ref b78), .val (.int (own_home vh1)), .val (.int (own_home vh2)), .val (.int (1 : Int32)), .unset, .unset, .unset, .unset, .unset] []))
        refine OGo.on (fun t k => XS.iload X141.here hx rfl (hb hby at_100) rfl k) ?_
        show OGo p e below s _ _ _ (T141.setTop (mkF m 102 #[.val (.int vh1), .val (.int vh2), .val (.int ve1), .val (.int ve2), .val (.int ve3), .val (.int vw), .val (.int va), .val (.int vb), .val (.int vc), .val (.ref b78), .val (.int (own_home vh1)), .val (.int (own_home vh2)), .val (.int (1 : Int32)), .unset, .unset, .unset, .unset, .unset] [(.int (own_home vh2))]))
        refine OGo.on (fun t k => XS.goto X141.here hx rfl (pc0 := 102) (pc' := 107) rfl (hb hby at_102) (by decide) (by decide) k) ?_
        show OGo p e below s _ _ _ (T141.setTop (mkF m 107 #[.val (.int vh1), .val (.int vh2), .val (.int ve1), .val (.int ve2), .val (.int ve3), .val (.int vw), .val (.int va), .val (.int vb), .val (.int vc), .val (.ref b78), .val (.int (own_home vh1)), .val (.int (own_home vh2)), .val (.int (1 : Int32)), .unset, .unset, .unset, .unset, .unset] [(.int (own_home vh2))]))
        refine OGo.on (fun t k => XS.istore X141.here hx rfl (hb hby at_107) rfl (l' := #[.val (.int vh1), .val (.int vh2), .val (.int ve1), .val (.int ve2), .val (.int ve3), .val (.int vw), .val (.int va), .val (.int vb), .val (.int vc), .val (.ref b78), .val (.int (own_home vh1)), .val (.int (own_home vh2)), .val (.int (1 : Int32)), .val (.int (own_home vh2)), .unset, .unset, .unset, .unset]) rfl k) ?_
        show OGo p e below s _ _ _ (T141.setTop (mkF m 109 #[.val (.int vh1), .val (.int vh2), .val (.int ve1), .val (.int ve2), .val (.int ve3), .val (.int vw), .val (.int va), .val (.int vb), .val (.int vc), .val (.ref b78), .val (.int (own_home vh1)), .val (.int (own_home vh2)), .val (.int (1 : Int32)), .val (.int (own_home vh2)), .unset, .unset, .unset, .unset] []))
        refine OGo.on (fun t k => XS.iload X141.here hx rfl (hb hby at_109) rfl k) ?_
        show OGo p e below s _ _ _ (T141.setTop (mkF m 111 #[.val (.int vh1), .val (.int vh2), .val (.int ve1), .val (.int ve2), .val (.int ve3), .val (.int vw), .val (.int va), .val (.int vb), .val (.int vc), .val (.ref b78), .val (.int (own_home vh1)), .val (.int (own_home vh2)), .val (.int (1 : Int32)), .val (.int (own_home vh2)), .unset, .unset, .unset, .unset] [(.int (1 : Int32))]))
        refine OGo.on (fun t k => XS.ifNo X141.here hx rfl (hb hby at_111) rfl ((if0 _ _).trans (feq (by decide)).1) k) ?_
        show OGo p e below s _ _ _ (T141.setTop (mkF m 114 #[.val (.int vh1), .val (.int vh2), .val (.int ve1), .val (.int ve2), .val (.int ve3), .val (.int vw), .val (.int va), .val (.int vb), .val (.int vc), .val (.ref b78), .val (.int (own_home vh1)), .val (.int (own_home vh2)), .val (.int (1 : Int32)), .val (.int (own_home vh2)), .unset, .unset, .unset, .unset] []))
        refine OGo.on (fun t k => XS.iload X141.here hx rfl (hb hby at_114) rfl k) ?_
        show OGo p e below s _ _ _ (T141.setTop (mkF m 116 #[.val (.int vh1), .val (.int vh2), .val (.int ve1), .val (.int ve2), .val (.int ve3), .val (.int vw), .val (.int va), .val (.int vb), .val (.int vc), .val (.ref b78), .val (.int (own_home vh1)), .val (.int (own_home vh2)), .val (.int (1 : Int32)), .val (.int (own_home vh2)), .unset, .unset, .unset, .unset] [(.int (own_home vh1))]))
        refine OGo.on (fun t k => XS.goto X141.here hx rfl (pc0 := 116) (pc' := 121) rfl (hb hby at_116) (by decide) (by decide) k) ?_
        show OGo p e below s _ _ _ (T141.setTop (mkF m 121 #[.val (.int vh1), .val (.int vh2), .val (.int ve1), .val (.int ve2), .val (.int ve3), .val (.int vw), .val (.int va), .val (.int vb), .val (.int vc), .val (.ref b78), .val (.int (own_home vh1)), .val (.int (own_home vh2)), .val (.int (1 : Int32)), .val (.int (own_home vh2)), .unset, .unset, .unset, .unset] [(.int (own_home vh1))]))
        refine OGo.on (fun t k => XS.istore X141.here hx rfl (hb hby at_121) rfl (l' := #[.val (.int vh1), .val (.int vh2), .val (.int ve1), .val (.int ve2), .val (.int ve3), .val (.int vw), .val (.int va), .val (.int vb), .val (.int vc), .val (.ref b78), .val (.int (own_home vh1)), .val (.int (own_home vh2)), .val (.int (1 : Int32)), .val (.int (own_home vh2)), .val (.int (own_home vh1)), .unset, .unset, .unset]) rfl k) ?_
        show OGo p e below s _ _ _ (T141.setTop (mkF m 123 #[.val (.int vh1), .val (.int vh2), .val (.int ve1), .val (.int ve2), .val (.int ve3), .val (.int vw), .val (.int va), .val (.int vb), .val (.int vc), .val (.ref b78), .val (.int (own_home vh1)), .val (.int (own_home vh2)), .val (.int (1 : Int32)), .val (.int (own_home vh2)), .val (.int (own_home vh1)), .unset, .unset, .unset] []))
        refine OGo.on (fun t k => XS.iload X141.here hx rfl (hb hby at_123) rfl k) ?_
        show OGo p e below s _ _ _ (T141.setTop (mkF m 125 #[.val (.int vh1), .val (.int vh2), .val (.int ve1), .val (.int ve2), .val (.int ve3), .val (.int vw), .val (.int va), .val (.int vb), .val (.int vc), .val (.ref b78), .val (.int (own_home vh1)), .val (.int (own_home vh2)), .val (.int (1 : Int32)), .val (.int (own_home vh2)), .val (.int (own_home vh1)), .unset, .unset, .unset] [(.int (1 : Int32))]))
        refine OGo.on (fun t k => XS.ifNo X141.here hx rfl (hb hby at_125) rfl ((if0 _ _).trans (feq (by decide)).1) k) ?_
        show OGo p e below s _ _ _ (T141.setTop (mkF m 128 #[.val (.int vh1), .val (.int vh2), .val (.int ve1), .val (.int ve2), .val (.int ve3), .val (.int vw), .val (.int va), .val (.int vb), .val (.int vc), .val (.ref b78), .val (.int (own_home vh1)), .val (.int (own_home vh2)), .val (.int (1 : Int32)), .val (.int (own_home vh2)), .val (.int (own_home vh1)), .unset, .unset, .unset] []))
        refine OGo.on (fun t k => XS.iloadN X141.here hx rfl (hb hby at_128) rfl k) ?_
        show OGo p e below s _ _ _ (T141.setTop (mkF m 129 #[.val (.int vh1), .val (.int vh2), .val (.int ve1), .val (.int ve2), .val (.int ve3), .val (.int vw), .val (.int va), .val (.int vb), .val (.int vc), .val (.ref b78), .val (.int (own_home vh1)), .val (.int (own_home vh2)), .val (.int (1 : Int32)), .val (.int (own_home vh2)), .val (.int (own_home vh1)), .unset, .unset, .unset] [(.int vh2)]))
        refine OGo.on (fun t k => XS.goto X141.here hx rfl (pc0 := 129) (pc' := 133) rfl (hb hby at_129) (by decide) (by decide) k) ?_
        show OGo p e below s _ _ _ (T141.setTop (mkF m 133 #[.val (.int vh1), .val (.int vh2), .val (.int ve1), .val (.int ve2), .val (.int ve3), .val (.int vw), .val (.int va), .val (.int vb), .val (.int vc), .val (.ref b78), .val (.int (own_home vh1)), .val (.int (own_home vh2)), .val (.int (1 : Int32)), .val (.int (own_home vh2)), .val (.int (own_home vh1)), .unset, .unset, .unset] [(.int vh2)]))
        refine OGo.on (fun t k => XS.istore X141.here hx rfl (hb hby at_133) rfl (l' := #[.val (.int vh1), .val (.int vh2), .val (.int ve1), .val (.int ve2), .val (.int ve3), .val (.int vw), .val (.int va), .val (.int vb), .val (.int vc), .val (.ref b78), .val (.int (own_home vh1)), .val (.int (own_home vh2)), .val (.int (1 : Int32)), .val (.int (own_home vh2)), .val (.int (own_home vh1)), .val (.int vh2), .unset, .unset]) rfl k) ?_
        show OGo p e below s _ _ _ (T141.setTop (mkF m 135 #[.val (.int vh1), .val (.int vh2), .val (.int ve1), .val (.int ve2), .val (.int ve3), .val (.int vw), .val (.int va), .val (.int vb), .val (.int vc), .val (.ref b78), .val (.int (own_home vh1)), .val (.int (own_home vh2)), .val (.int (1 : Int32)), .val (.int (own_home vh2)), .val (.int (own_home vh1)), .val (.int vh2), .unset, .unset] []))
        refine OGo.on (fun t k => XS.iload X141.here hx rfl (hb hby at_135) rfl k) ?_
        show OGo p e below s _ _ _ (T141.setTop (mkF m 137 #[.val (.int vh1), .val (.int vh2), .val (.int ve1), .val (.int ve2), .val (.int ve3), .val (.int vw), .val (.int va), .val (.int vb), .val (.int vc), .val (.ref b78), .val (.int (own_home vh1)), .val (.int (own_home vh2)), .val (.int (1 : Int32)), .val (.int (own_home vh2)), .val (.int (own_home vh1)), .val (.int vh2), .unset, .unset] [(.int (1 : Int32))]))
        refine OGo.on (fun t k => XS.ifNo X141.here hx rfl (hb hby at_137) rfl ((if0 _ _).trans (feq (by decide)).1) k) ?_
        show OGo p e below s _ _ _ (T141.setTop (mkF m 140 #[.val (.int vh1), .val (.int vh2), .val (.int ve1), .val (.int ve2), .val (.int ve3), .val (.int vw), .val (.int va), .val (.int vb), .val (.int vc), .val (.ref b78), .val (.int (own_home vh1)), .val (.int (own_home vh2)), .val (.int (1 : Int32)), .val (.int (own_home vh2)), .val (.int (own_home vh1)), .val (.int vh2), .unset, .unset] []))
        refine OGo.on (fun t k => XS.iload X141.here hx rfl (hb hby at_140) rfl k) ?_
        show OGo p e below s _ _ _ (T141.setTop (mkF m 142 #[.val (.int vh1), .val (.int vh2), .val (.int ve1), .val (.int ve2), .val (.int ve3), .val (.int vw), .val (.int va), .val (.int vb), .val (.int vc), .val (.ref b78), .val (.int (own_home vh1)), .val (.int (own_home vh2)), .val (.int (1 : Int32)), .val (.int (own_home vh2)), .val (.int (own_home vh1)), .val (.int vh2), .unset, .unset] [(.int va)]))
        refine OGo.on (fun t k => XS.goto X141.here hx rfl (pc0 := 142) (pc' := 147) rfl (hb hby at_142) (by decide) (by decide) k) ?_
        show OGo p e below s _ _ _ (T141.setTop (mkF m 147 #[.val (.int vh1), .val (.int vh2), .val (.int ve1), .val (.int ve2), .val (.int ve3), .val (.int vw), .val (.int va), .val (.int vb), .val (.int vc), .val (.ref b78), .val (.int (own_home vh1)), .val (.int (own_home vh2)), .val (.int (1 : Int32)), .val (.int (own_home vh2)), .val (.int (own_home vh1)), .val (.int vh2), .unset, .unset] [(.int va)]))
        refine OGo.on (fun t k => XS.istore X141.here hx rfl (hb hby at_147) rfl (l' := #[.val (.int vh1), .val (.int vh2), .val (.int ve1), .val (.int ve2), .val (.int ve3), .val (.int vw), .val (.int va), .val (.int vb), .val (.int vc), .val (.ref b78), .val (.int (own_home vh1)), .val (.int (own_home vh2)), .val (.int (1 : Int32)), .val (.int (own_home vh2)), .val (.int (own_home vh1)), .val (.int vh2), .val (.int va), .unset]) rfl k) ?_
        show OGo p e below s _ _ _ (T141.setTop (mkF m 149 #[.val (.int vh1), .val (.int vh2), .val (.int ve1), .val (.int ve2), .val (.int ve3), .val (.int vw), .val (.int va), .val (.int vb), .val (.int vc), .val (.ref b78), .val (.int (own_home vh1)), .val (.int (own_home vh2)), .val (.int (1 : Int32)), .val (.int (own_home vh2)), .val (.int (own_home vh1)), .val (.int vh2), .val (.int va), .unset] []))
        refine OGo.on (fun t k => XS.aload X141.here hx rfl (hb hby at_149) rfl rfl k) ?_
        show OGo p e below s _ _ _ (T141.setTop (mkF m 151 #[.val (.int vh1), .val (.int vh2), .val (.int ve1), .val (.int ve2), .val (.int ve3), .val (.int vw), .val (.int va), .val (.int vb), .val (.int vc), .val (.ref b78), .val (.int (own_home vh1)), .val (.int (own_home vh2)), .val (.int (1 : Int32)), .val (.int (own_home vh2)), .val (.int (own_home vh1)), .val (.int vh2), .val (.int va), .unset] [(.ref b78)]))
        refine OGo.on (fun t k => XS.iload X141.here hx rfl (hb hby at_151) rfl k) ?_
        show OGo p e below s _ _ _ (T141.setTop (mkF m 153 #[.val (.int vh1), .val (.int vh2), .val (.int ve1), .val (.int ve2), .val (.int ve3), .val (.int vw), .val (.int va), .val (.int vb), .val (.int vc), .val (.ref b78), .val (.int (own_home vh1)), .val (.int (own_home vh2)), .val (.int (1 : Int32)), .val (.int (own_home vh2)), .val (.int (own_home vh1)), .val (.int vh2), .val (.int va), .unset] [(.int (own_home vh2)), (.ref b78)]))
        refine OGo.on (fun t k => XS.iload X141.here hx rfl (hb hby at_153) rfl k) ?_
        show OGo p e below s _ _ _ (T141.setTop (mkF m 155 #[.val (.int vh1), .val (.int vh2), .val (.int ve1), .val (.int ve2), .val (.int ve3), .val (.int vw), .val (.int va), .val (.int vb), .val (.int vc), .val (.ref b78), .val (.int (own_home vh1)), .val (.int (own_home vh2)), .val (.int (1 : Int32)), .val (.int (own_home vh2)), .val (.int (own_home vh1)), .val (.int vh2), .val (.int va), .unset] [(.int vc), (.int (own_home vh2)), (.ref b78)]))
        obtain ⟨cq154, kq154, q154a, q154b, q154c⟩ := isOf hZ rfl f142
        obtain ⟨_, _, ⟨T154, L154, k154, n154⟩, -, X154, ⟨Lc154, hQ154, l154, y154, z154⟩, st154⟩ := X141.virtualBack hx (y := (⟨"com/example/metrilog/metrilog/Slots", "replace", "(II)V"⟩ : MethodName)) (z := (⟨"com/example/metrilog/metrilog/Slots", "replace", "(II)V"⟩ : MethodName)) hown (mvT hZ (hw _ (List.mem_of_getElem? (i := 46) rfl))) (mvT hZ (hw _ (List.mem_of_getElem? (i := 47) rfl))) (notFace_of_selects (args := #[]) (mvT hZ (hw _ (List.mem_of_getElem? (i := 49) rfl)))) (mvT hZ (hw _ (List.mem_of_getElem? (i := 49) rfl))) (mvT hZ (hw _ (List.mem_of_getElem? (i := 48) rfl))) (by decide) (backOf (W := 0) (own_mrep l Z a0 hw [] b78 rb (([(0 : Int64), 0, 0, 0, 0, 0, 0, 0, 0, 0, 0, 0, 0, 0, 0, 0].set (own_home vh1).toNatClampNeg (own_val vh1 va)).set (own_home vh2).toNatClampNeg (own_val vh2 vb)) (own_home vh2) vc (own_val vh2 vb) T141.heap n0 Z143 g_rb hab Fs141 Ar141 (own_len (own_len rfl)) (in_home vh2) (own_same (in_home vh2) (own_len rfl))) hZ (hw _ (List.mem_of_getElem? (i := 50) rfl)) (hw _ (List.mem_of_getElem? (i := 3) rfl)) (by decide) (by decide)) q154a q154c (g := (mkF m 155 #[.val (.int vh1), .val (.int vh2), .val (.int ve1), .val (.int ve2), .val (.int ve3), .val (.int vw), .val (.int va), .val (.int vb), .val (.int vc), .val (.ref b78), .val (.int (own_home vh1)), .val (.int (own_home vh2)), .val (.int (1 : Int32)), .val (.int (own_home vh2)), .val (.int (own_home vh1)), .val (.int vh2), .val (.int va), .unset] [(.int vc), (.int (own_home vh2)), (.ref b78)])) rfl (by rw [hml]; rfl) (Steps.refl _) (argsL := [(.int (own_home vh2)), (.int vc)]) (rest := []) (lenOf own_pd5 rfl) rfl (by show 2 * 0 + _ ≤ _; exact Nat.le_of_eq rfl) (hb hby at_155) (fun _ _ => ⟨rfl, rfl, (by decide : 2 + 0 ≤ _), (by decide : 19 + 0 ≤ _)⟩)
        dsimp only [Pt.U, Pt.locs, Pt.cells, Pt.slots] at X154 l154 y154 z154 st154 hQ154
        subst l154 y154 z154
        obtain ⟨rfl, N154q, K154, Ar154⟩ := hQ154
        have N154 := Fr.app N141 N154q
        rw [own_rv hvb hvc] at Ar154
        have f155 : Exa Z T154.heap b78 "com/example/metrilog/metrilog/Slots" := f142.keep K154
        have f156 : Fld Z T154.heap b78 "com/example/metrilog/metrilog/Slots" "slots" "[J" (.ref rb) := Fs141.keep K154 (own_nm1 hab)
        have f157 : Fld Z T154.heap b78 "com/example/metrilog/metrilog/Slots" "shift" "I" (.int (28 : Int32)) := Fh141.keep K154 (own_nm1 hab)
        have f158 : Fld Z T154.heap b78 "com/example/metrilog/metrilog/Slots" "filled" "I" (.int (2 : Int32)) := Fg141.keep K154 (own_nm1 hab)
        have Z159 : n0 ≤ T154.heap.size := Nat.le_trans Z143 K154.1
        refine OGo.on (fun t k => st154.trans k) ?_
        show OGo p e below s _ _ _ (T154.setTop (mkF m 158 #[.val (.int vh1), .val (.int vh2), .val (.int ve1), .val (.int ve2), .val (.int ve3), .val (.int vw), .val (.int va), .val (.int vb), .val (.int vc), .val (.ref b78), .val (.int (own_home vh1)), .val (.int (own_home vh2)), .val (.int (1 : Int32)), .val (.int (own_home vh2)), .val (.int (own_home vh1)), .val (.int vh2), .val (.int va), .unset] []))
        refine OGo.on (fun t k => XS.aload X154.here hx rfl (hb hby at_158) rfl rfl k) ?_
        show OGo p e below s _ _ _ (T154.setTop (mkF m 160 #[.val (.int vh1), .val (.int vh2), .val (.int ve1), .val (.int ve2), .val (.int ve3), .val (.int vw), .val (.int va), .val (.int vb), .val (.int vc), .val (.ref b78), .val (.int (own_home vh1)), .val (.int (own_home vh2)), .val (.int (1 : Int32)), .val (.int (own_home vh2)), .val (.int (own_home vh1)), .val (.int vh2), .val (.int va), .unset] [(.ref b78)]))
        refine OGo.on (fun t k => XS.iload X154.here hx rfl (hb hby at_160) rfl k) ?_
        show OGo p e below s _ _ _ (T154.setTop (mkF m 162 #[.val (.int vh1), .val (.int vh2), .val (.int ve1), .val (.int ve2), .val (.int ve3), .val (.int vw), .val (.int va), .val (.int vb), .val (.int vc), .val (.ref b78), .val (.int (own_home vh1)), .val (.int (own_home vh2)), .val (.int (1 : Int32)), .val (.int (own_home vh2)), .val (.int (own_home vh1)), .val (.int vh2), .val (.int va), .unset] [(.int vh2), (.ref b78)]))
        obtain ⟨cq160, kq160, q160a, q160b, q160c⟩ := isOf hZ rfl f155
        obtain ⟨_, _, ⟨T160, L160, k160, n160⟩, -, X160, ⟨Lc160, hQ160, l160, y160, z160⟩, st160⟩ := X154.virtualBack hx (y := (⟨"com/example/metrilog/metrilog/Slots", "first", "(I)I"⟩ : MethodName)) (z := (⟨"com/example/metrilog/metrilog/Slots", "first", "(I)I"⟩ : MethodName)) hown (mvT hZ (hw _ (List.mem_of_getElem? (i := 22) rfl))) (mvT hZ (hw _ (List.mem_of_getElem? (i := 23) rfl))) (notFace_of_selects (args := #[]) (mvT hZ (hw _ (List.mem_of_getElem? (i := 25) rfl)))) (mvT hZ (hw _ (List.mem_of_getElem? (i := 25) rfl))) (mvT hZ (hw _ (List.mem_of_getElem? (i := 24) rfl))) (by decide) (backOf (W := 0) (own_first0 l Z a0 hw [] b78 rb ((([(0 : Int64), 0, 0, 0, 0, 0, 0, 0, 0, 0, 0, 0, 0, 0, 0, 0].set (own_home vh1).toNatClampNeg (own_val vh1 va)).set (own_home vh2).toNatClampNeg (own_val vh2 vb)).set (own_home vh2).toNatClampNeg (own_val vh2 vc)) vh2 (own_val vh2 vc) T154.heap n0 Z159 f155 f156 f157 Ar154 (own_len (own_len (own_len rfl))) (own_same (in_home vh2) (own_len (own_len rfl))) (fun _ => own_hv hvc)) hZ (hw _ (List.mem_of_getElem? (i := 26) rfl)) (hw _ (List.mem_of_getElem? (i := 3) rfl)) (by decide) (by decide)) q160a q160c (g := (mkF m 162 #[.val (.int vh1), .val (.int vh2), .val (.int ve1), .val (.int ve2), .val (.int ve3), .val (.int vw), .val (.int va), .val (.int vb), .val (.int vc), .val (.ref b78), .val (.int (own_home vh1)), .val (.int (own_home vh2)), .val (.int (1 : Int32)), .val (.int (own_home vh2)), .val (.int (own_home vh1)), .val (.int vh2), .val (.int va), .unset] [(.int vh2), (.ref b78)])) rfl (by rw [hml]; rfl) (Steps.refl _) (argsL := [(.int vh2)]) (rest := []) (lenOf own_pd1 rfl) rfl (by show 2 * 0 + _ ≤ _; exact Nat.le_of_eq rfl) (hb hby at_162) (fun _ _ => ⟨rfl, rfl, (by decide : 2 + 0 ≤ _), (by decide : 19 + 0 ≤ _)⟩)
        dsimp only [Pt.U, Pt.locs, Pt.cells, Pt.slots] at X160 l160 y160 z160 st160 hQ160
        subst l160 y160 z160
        obtain ⟨rfl, N160q, e160⟩ := hQ160
        have N160 := Fr.app N154 N160q
        refine OGo.on (fun t k => st160.trans k) ?_
        show OGo p e below s _ _ _ (T160.setTop (mkF m 165 #[.val (.int vh1), .val (.int vh2), .val (.int ve1), .val (.int ve2), .val (.int ve3), .val (.int vw), .val (.int va), .val (.int vb), .val (.int vc), .val (.ref b78), .val (.int (own_home vh1)), .val (.int (own_home vh2)), .val (.int (1 : Int32)), .val (.int (own_home vh2)), .val (.int (own_home vh1)), .val (.int vh2), .val (.int va), .unset] [(.int (own_home vh2))]))
        refine OGo.on (fun t k => XS.istore X160.here hx rfl (hb hby at_165) rfl (l' := #[.val (.int vh1), .val (.int vh2), .val (.int ve1), .val (.int ve2), .val (.int ve3), .val (.int vw), .val (.int va), .val (.int vb), .val (.int vc), .val (.ref b78), .val (.int (own_home vh1)), .val (.int (own_home vh2)), .val (.int (1 : Int32)), .val (.int (own_home vh2)), .val (.int (own_home vh1)), .val (.int vh2), .val (.int va), .val (.int (own_home vh2))]) rfl k) ?_
        show OGo p e below s _ _ _ (T160.setTop (mkF m 167 #[.val (.int vh1), .val (.int vh2), .val (.int ve1), .val (.int ve2), .val (.int ve3), .val (.int vw), .val (.int va), .val (.int vb), .val (.int vc), .val (.ref b78), .val (.int (own_home vh1)), .val (.int (own_home vh2)), .val (.int (1 : Int32)), .val (.int (own_home vh2)), .val (.int (own_home vh1)), .val (.int vh2), .val (.int va), .val (.int (own_home vh2))] []))
        refine OGo.on (fun t k => XS.iload X160.here hx rfl (hb hby at_167) rfl k) ?_
        show OGo p e below s _ _ _ (T160.setTop (mkF m 169 #[.val (.int vh1), .val (.int vh2), .val (.int ve1), .val (.int ve2), .val (.int ve3), .val (.int vw), .val (.int va), .val (.int vb), .val (.int vc), .val (.ref b78), .val (.int (own_home vh1)), .val (.int (own_home vh2)), .val (.int (1 : Int32)), .val (.int (own_home vh2)), .val (.int (own_home vh1)), .val (.int vh2), .val (.int va), .val (.int (own_home vh2))] [(.int (own_home vh2))]))
        refine OGo.on (fun t k => XS.iload X160.here hx rfl (hb hby at_169) rfl k) ?_
        show OGo p e below s _ _ _ (T160.setTop (mkF m 171 #[.val (.int vh1), .val (.int vh2), .val (.int ve1), .val (.int ve2), .val (.int ve3), .val (.int vw), .val (.int va), .val (.int vb), .val (.int vc), .val (.ref b78), .val (.int (own_home vh1)), .val (.int (own_home vh2)), .val (.int (1 : Int32)), .val (.int (own_home vh2)), .val (.int (own_home vh1)), .val (.int vh2), .val (.int va), .val (.int (own_home vh2))] [(.int (own_home vh2)), (.int (own_home vh2))]))
        refine OGo.on (fun t k => XS.icmpYes X160.here hx rfl (pc0 := 171) (pc' := 185) rfl (hb hby at_171) rfl (teq rfl).1 (by decide) (by decide) k) ?_
        show OGo p e below s _ _ _ (T160.setTop (mkF m 185 #[.val (.int vh1), .val (.int vh2), .val (.int ve1), .val (.int ve2), .val (.int ve3), .val (.int vw), .val (.int va), .val (.int vb), .val (.int vc), .val (.ref b78), .val (.int (own_home vh1)), .val (.int (own_home vh2)), .val (.int (1 : Int32)), .val (.int (own_home vh2)), .val (.int (own_home vh1)), .val (.int vh2), .val (.int va), .val (.int (own_home vh2))] []))
        refine OGo.on (fun t k => XS.iload X160.here hx rfl (hb hby at_185) rfl k) ?_
        show OGo p e below s _ _ _ (T160.setTop (mkF m 187 #[.val (.int vh1), .val (.int vh2), .val (.int ve1), .val (.int ve2), .val (.int ve3), .val (.int vw), .val (.int va), .val (.int vb), .val (.int vc), .val (.ref b78), .val (.int (own_home vh1)), .val (.int (own_home vh2)), .val (.int (1 : Int32)), .val (.int (own_home vh2)), .val (.int (own_home vh1)), .val (.int vh2), .val (.int va), .val (.int (own_home vh2))] [(.int (own_home vh2))]))
        refine OGo.on (fun t k => XS.iload X160.here hx rfl (hb hby at_187) rfl k) ?_
        show OGo p e below s _ _ _ (T160.setTop (mkF m 189 #[.val (.int vh1), .val (.int vh2), .val (.int ve1), .val (.int ve2), .val (.int ve3), .val (.int vw), .val (.int va), .val (.int vb), .val (.int vc), .val (.ref b78), .val (.int (own_home vh1)), .val (.int (own_home vh2)), .val (.int (1 : Int32)), .val (.int (own_home vh2)), .val (.int (own_home vh1)), .val (.int vh2), .val (.int va), .val (.int (own_home vh2))] [(.int (own_home vh2)), (.int (own_home vh2))]))
        refine OGo.on (fun t k => XS.icmpNo X160.here hx rfl (hb hby at_189) rfl (teq rfl).2 k) ?_
        show OGo p e below s _ _ _ (T160.setTop (mkF m 192 #[.val (.int vh1), .val (.int vh2), .val (.int ve1), .val (.int ve2), .val (.int ve3), .val (.int vw), .val (.int va), .val (.int vb), .val (.int vc), .val (.ref b78), .val (.int (own_home vh1)), .val (.int (own_home vh2)), .val (.int (1 : Int32)), .val (.int (own_home vh2)), .val (.int (own_home vh1)), .val (.int vh2), .val (.int va), .val (.int (own_home vh2))] []))
        refine OGo.on (fun t k => XS.aload X160.here hx rfl (hb hby at_192) rfl rfl k) ?_
        show OGo p e below s _ _ _ (T160.setTop (mkF m 194 #[.val (.int vh1), .val (.int vh2), .val (.int ve1), .val (.int ve2), .val (.int ve3), .val (.int vw), .val (.int va), .val (.int vb), .val (.int vc), .val (.ref b78), .val (.int (own_home vh1)), .val (.int (own_home vh2)), .val (.int (1 : Int32)), .val (.int (own_home vh2)), .val (.int (own_home vh1)), .val (.int vh2), .val (.int va), .val (.int (own_home vh2))] [(.ref b78)]))
        refine OGo.on (fun t k => XS.iload X160.here hx rfl (hb hby at_194) rfl k) ?_
        show OGo p e below s _ _ _ (T160.setTop (mkF m 196 #[.val (.int vh1), .val (.int vh2), .val (.int ve1), .val (.int ve2), .val (.int ve3), .val (.int vw), .val (.int va), .val (.int vb), .val (.int vc), .val (.ref b78), .val (.int (own_home vh1)), .val (.int (own_home vh2)), .val (.int (1 : Int32)), .val (.int (own_home vh2)), .val (.int (own_home vh1)), .val (.int vh2), .val (.int va), .val (.int (own_home vh2))] [(.int (own_home vh2)), (.ref b78)]))
        obtain ⟨cq161, kq161, q161a, q161b, q161c⟩ := isOf hZ e160 f155
        obtain ⟨_, _, ⟨T161, L161, k161, n161⟩, -, X161, ⟨Lc161, hQ161, l161, y161, z161⟩, st161⟩ := X160.virtualBack hx (y := (⟨"com/example/metrilog/metrilog/Slots", "entry", "(I)I"⟩ : MethodName)) (z := (⟨"com/example/metrilog/metrilog/Slots", "entry", "(I)I"⟩ : MethodName)) hown (mvT hZ (hw _ (List.mem_of_getElem? (i := 52) rfl))) (mvT hZ (hw _ (List.mem_of_getElem? (i := 53) rfl))) (notFace_of_selects (args := #[]) (mvT hZ (hw _ (List.mem_of_getElem? (i := 55) rfl)))) (mvT hZ (hw _ (List.mem_of_getElem? (i := 55) rfl))) (mvT hZ (hw _ (List.mem_of_getElem? (i := 54) rfl))) (by decide) (backOf (W := 0) (own_mentry l Z a0 hw [] b78 rb ((([(0 : Int64), 0, 0, 0, 0, 0, 0, 0, 0, 0, 0, 0, 0, 0, 0, 0].set (own_home vh1).toNatClampNeg (own_val vh1 va)).set (own_home vh2).toNatClampNeg (own_val vh2 vb)).set (own_home vh2).toNatClampNeg (own_val vh2 vc)) (own_home vh2) (own_val vh2 vc) T154.heap n0 Z159 f156 Ar154 (own_len (own_len (own_len rfl))) (own_same (in_home vh2) (own_len (own_len rfl)))) hZ (hw _ (List.mem_of_getElem? (i := 56) rfl)) (hw _ (List.mem_of_getElem? (i := 3) rfl)) (by decide) (by decide)) q161a q161c (g := (mkF m 196 #[.val (.int vh1), .val (.int vh2), .val (.int ve1), .val (.int ve2), .val (.int ve3), .val (.int vw), .val (.int va), .val (.int vb), .val (.int vc), .val (.ref b78), .val (.int (own_home vh1)), .val (.int (own_home vh2)), .val (.int (1 : Int32)), .val (.int (own_home vh2)), .val (.int (own_home vh1)), .val (.int vh2), .val (.int va), .val (.int (own_home vh2))] [(.int (own_home vh2)), (.ref b78)])) rfl (by rw [hml]; rfl) (Steps.refl _) (argsL := [(.int (own_home vh2))]) (rest := []) (lenOf own_pd1 rfl) rfl (by show 2 * 0 + _ ≤ _; exact Nat.le_of_eq rfl) (hb hby at_196) (fun _ _ => ⟨rfl, e160, (by decide : 2 + 0 ≤ _), (by decide : 19 + 0 ≤ _)⟩)
        dsimp only [Pt.U, Pt.locs, Pt.cells, Pt.slots] at X161 l161 y161 z161 st161 hQ161
        subst l161 y161 z161
        obtain ⟨rfl, N161q, e161⟩ := hQ161
        have N161 := Fr.app N160 N161q
        refine OGo.on (fun t k => st161.trans k) ?_
        show OGo p e below s _ _ _ (T161.setTop (mkF m 199 #[.val (.int vh1), .val (.int vh2), .val (.int ve1), .val (.int ve2), .val (.int ve3), .val (.int vw), .val (.int va), .val (.int vb), .val (.int vc), .val (.ref b78), .val (.int (own_home vh1)), .val (.int (own_home vh2)), .val (.int (1 : Int32)), .val (.int (own_home vh2)), .val (.int (own_home vh1)), .val (.int vh2), .val (.int va), .val (.int (own_home vh2))] [(.int (own_entry (own_val vh2 vc)))]))
        refine OGo.on (fun t k => XS.iload X161.here hx rfl (hb hby at_199) rfl k) ?_
        show OGo p e below s _ _ _ (T161.setTop (mkF m 201 #[.val (.int vh1), .val (.int vh2), .val (.int ve1), .val (.int ve2), .val (.int ve3), .val (.int vw), .val (.int va), .val (.int vb), .val (.int vc), .val (.ref b78), .val (.int (own_home vh1)), .val (.int (own_home vh2)), .val (.int (1 : Int32)), .val (.int (own_home vh2)), .val (.int (own_home vh1)), .val (.int vh2), .val (.int va), .val (.int (own_home vh2))] [(.int vc), (.int (own_entry (own_val vh2 vc)))]))
        refine OGo.on (fun t k => XS.icmpNo X161.here hx rfl (hb hby at_201) rfl (teq (own_ev hvc)).2 k) ?_
        show OGo p e below s _ _ _ (T161.setTop (mkF m 204 #[.val (.int vh1), .val (.int vh2), .val (.int ve1), .val (.int ve2), .val (.int ve3), .val (.int vw), .val (.int va), .val (.int vb), .val (.int vc), .val (.ref b78), .val (.int (own_home vh1)), .val (.int (own_home vh2)), .val (.int (1 : Int32)), .val (.int (own_home vh2)), .val (.int (own_home vh1)), .val (.int vh2), .val (.int va), .val (.int (own_home vh2))] []))
        refine OGo.on (fun t k => XS.aload X161.here hx rfl (hb hby at_204) rfl rfl k) ?_
        show OGo p e below s _ _ _ (T161.setTop (mkF m 206 #[.val (.int vh1), .val (.int vh2), .val (.int ve1), .val (.int ve2), .val (.int ve3), .val (.int vw), .val (.int va), .val (.int vb), .val (.int vc), .val (.ref b78), .val (.int (own_home vh1)), .val (.int (own_home vh2)), .val (.int (1 : Int32)), .val (.int (own_home vh2)), .val (.int (own_home vh1)), .val (.int vh2), .val (.int va), .val (.int (own_home vh2))] [(.ref b78)]))
        refine OGo.on (fun t k => XS.iload X161.here hx rfl (hb hby at_206) rfl k) ?_
        show OGo p e below s _ _ _ (T161.setTop (mkF m 208 #[.val (.int vh1), .val (.int vh2), .val (.int ve1), .val (.int ve2), .val (.int ve3), .val (.int vw), .val (.int va), .val (.int vb), .val (.int vc), .val (.ref b78), .val (.int (own_home vh1)), .val (.int (own_home vh2)), .val (.int (1 : Int32)), .val (.int (own_home vh2)), .val (.int (own_home vh1)), .val (.int vh2), .val (.int va), .val (.int (own_home vh2))] [(.int (own_home vh1)), (.ref b78)]))
        obtain ⟨cq162, kq162, q162a, q162b, q162c⟩ := isOf hZ e161 f155
        obtain ⟨_, _, ⟨T162, L162, k162, n162⟩, -, X162, ⟨Lc162, hQ162, l162, y162, z162⟩, st162⟩ := X161.virtualBack hx (y := (⟨"com/example/metrilog/metrilog/Slots", "entry", "(I)I"⟩ : MethodName)) (z := (⟨"com/example/metrilog/metrilog/Slots", "entry", "(I)I"⟩ : MethodName)) hown (mvT hZ (hw _ (List.mem_of_getElem? (i := 52) rfl))) (mvT hZ (hw _ (List.mem_of_getElem? (i := 53) rfl))) (notFace_of_selects (args := #[]) (mvT hZ (hw _ (List.mem_of_getElem? (i := 55) rfl)))) (mvT hZ (hw _ (List.mem_of_getElem? (i := 55) rfl))) (mvT hZ (hw _ (List.mem_of_getElem? (i := 54) rfl))) (by decide) (backOf (W := 0) (own_mentry l Z a0 hw [] b78 rb ((([(0 : Int64), 0, 0, 0, 0, 0, 0, 0, 0, 0, 0, 0, 0, 0, 0, 0].set (own_home vh1).toNatClampNeg (own_val vh1 va)).set (own_home vh2).toNatClampNeg (own_val vh2 vb)).set (own_home vh2).toNatClampNeg (own_val vh2 vc)) (own_home vh1) (own_val vh1 va) T154.heap n0 Z159 f156 Ar154 (own_len (own_len (own_len rfl))) (own_other (own_other (own_same (in_home vh1) rfl) (in_home vh2) (in_home vh1) hh116) (in_home vh2) (in_home vh1) hh116)) hZ (hw _ (List.mem_of_getElem? (i := 56) rfl)) (hw _ (List.mem_of_getElem? (i := 3) rfl)) (by decide) (by decide)) q162a q162c (g := (mkF m 208 #[.val (.int vh1), .val (.int vh2), .val (.int ve1), .val (.int ve2), .val (.int ve3), .val (.int vw), .val (.int va), .val (.int vb), .val (.int vc), .val (.ref b78), .val (.int (own_home vh1)), .val (.int (own_home vh2)), .val (.int (1 : Int32)), .val (.int (own_home vh2)), .val (.int (own_home vh1)), .val (.int vh2), .val (.int va), .val (.int (own_home vh2))] [(.int (own_home vh1)), (.ref b78)])) rfl (by rw [hml]; rfl) (Steps.refl _) (argsL := [(.int (own_home vh1))]) (rest := []) (lenOf own_pd1 rfl) rfl (by show 2 * 0 + _ ≤ _; exact Nat.le_of_eq rfl) (hb hby at_208) (fun _ _ => ⟨rfl, e161, (by decide : 2 + 0 ≤ _), (by decide : 19 + 0 ≤ _)⟩)
        dsimp only [Pt.U, Pt.locs, Pt.cells, Pt.slots] at X162 l162 y162 z162 st162 hQ162
        subst l162 y162 z162
        obtain ⟨rfl, N162q, e162⟩ := hQ162
        have N162 := Fr.app N161 N162q
        refine OGo.on (fun t k => st162.trans k) ?_
        show OGo p e below s _ _ _ (T162.setTop (mkF m 211 #[.val (.int vh1), .val (.int vh2), .val (.int ve1), .val (.int ve2), .val (.int ve3), .val (.int vw), .val (.int va), .val (.int vb), .val (.int vc), .val (.ref b78), .val (.int (own_home vh1)), .val (.int (own_home vh2)), .val (.int (1 : Int32)), .val (.int (own_home vh2)), .val (.int (own_home vh1)), .val (.int vh2), .val (.int va), .val (.int (own_home vh2))] [(.int (own_entry (own_val vh1 va)))]))
        refine OGo.on (fun t k => XS.iload X162.here hx rfl (hb hby at_211) rfl k) ?_
        show OGo p e below s _ _ _ (T162.setTop (mkF m 213 #[.val (.int vh1), .val (.int vh2), .val (.int ve1), .val (.int ve2), .val (.int ve3), .val (.int vw), .val (.int va), .val (.int vb), .val (.int vc), .val (.ref b78), .val (.int (own_home vh1)), .val (.int (own_home vh2)), .val (.int (1 : Int32)), .val (.int (own_home vh2)), .val (.int (own_home vh1)), .val (.int vh2), .val (.int va), .val (.int (own_home vh2))] [(.int va), (.int (own_entry (own_val vh1 va)))]))
        refine OGo.on (fun t k => XS.icmpNo X162.here hx rfl (hb hby at_213) rfl (teq (own_ev hva)).2 k) ?_
        show OGo p e below s _ _ _ (T162.setTop (mkF m 216 #[.val (.int vh1), .val (.int vh2), .val (.int ve1), .val (.int ve2), .val (.int ve3), .val (.int vw), .val (.int va), .val (.int vb), .val (.int vc), .val (.ref b78), .val (.int (own_home vh1)), .val (.int (own_home vh2)), .val (.int (1 : Int32)), .val (.int (own_home vh2)), .val (.int (own_home vh1)), .val (.int vh2), .val (.int va), .val (.int (own_home vh2))] []))
        refine OGo.on (fun t k => XS.iconst X162.here hx rfl (hb hby at_216) k) ?_
        show OGo p e below s _ _ _ (T162.setTop (mkF m 217 #[.val (.int vh1), .val (.int vh2), .val (.int ve1), .val (.int ve2), .val (.int ve3), .val (.int vw), .val (.int va), .val (.int vb), .val (.int vc), .val (.ref b78), .val (.int (own_home vh1)), .val (.int (own_home vh2)), .val (.int (1 : Int32)), .val (.int (own_home vh2)), .val (.int (own_home vh1)), .val (.int vh2), .val (.int va), .val (.int (own_home vh2))] [(.int (1 : Int32))]))
        refine OGo.on (fun t k => XS.goto X162.here hx rfl (pc0 := 217) (pc' := 221) rfl (hb hby at_217) (by decide) (by decide) k) ?_
        show OGo p e below s _ _ _ (T162.setTop (mkF m 221 #[.val (.int vh1), .val (.int vh2), .val (.int ve1), .val (.int ve2), .val (.int ve3), .val (.int vw), .val (.int va), .val (.int vb), .val (.int vc), .val (.ref b78), .val (.int (own_home vh1)), .val (.int (own_home vh2)), .val (.int (1 : Int32)), .val (.int (own_home vh2)), .val (.int (own_home vh1)), .val (.int vh2), .val (.int va), .val (.int (own_home vh2))] [(.int (1 : Int32))]))
        exact OGo.retN X162 hx (t := .boolean) hret hlk (by simp) (hb hby at_221) ⟨rfl, N162⟩ (by decide) (by decide)
set_option maxRecDepth 65536 in
set_option maxHeartbeats 40000000 in
theorem comes_1 {Post : Tables → Env → Array Value → State → Outcome → State → Prop} (hpost : ∀ tb e args s v u, (limb_1_1.after args s (.returned v) u = true ∧ limb_1_2.after args s (.returned v) u = true ∧ True) → FrameEnd s (.returned v) u (Jvm.fieldLocs frame_1_writes args s ++ Jvm.arrayLocs frame_1_arrays args s ++ Jvm.staticLocs frame_1_statics s) 16 128 → Post tb e args s (.returned v) u) :
    ArmFor flags0 classFile x code maxLocals ret World_1 tables_1 room_1 Calls_1 rest_1 Pre_1 Post := by
  intro l hfl _ _ p e ha hc hk s m args below hf hA hF happ hP
  obtain ⟨hcalls, hrest, hpre⟩ := hP
  obtain ⟨-, -, -, hnamed, -, -, -, hat⟩ := (Spec.applies_iff hf).mp happ
  obtain ⟨hg, hn⟩ := and_e (Cond.before_iff.mp (show (Jvm.Cond.and given_1 narrow_1).before args s = true from hpre))
  obtain ⟨gg163, gg164⟩ := and_e hg
  obtain ⟨gg165, gg166⟩ := and_e gg164
  obtain ⟨gg167, gg168⟩ := and_e gg166
  obtain ⟨gg169, gg170⟩ := and_e gg168
  obtain ⟨gg171, gg172⟩ := and_e gg170
  obtain ⟨gg173, gg174⟩ := and_e gg172
  obtain ⟨w0, w1, w2, w3, w4, w5, rfl⟩ : ∃ w0 w1 w2 w3 w4 w5 : Value, args = #[w0, w1, w2, w3, w4, w5] := by
    have hs : args.size = 6 := by simpa [Cond.value, given_1] using gg163
    obtain ⟨L⟩ := args
    match L, hs with
    | [w0, w1, w2, w3, w4, w5], _ => exact ⟨w0, w1, w2, w3, w4, w5, rfl⟩
  have hw := fun d (hd : d ∈ tables_1) => atoms_spec (ws := Jvm.Cond.code x code maxLocals ret :: tables_1) hat d (List.mem_cons_of_mem _ hd)
  obtain ⟨i0, ei0⟩ := is_v gg165
  obtain rfl : w0 = (.int i0) := Option.some.inj ei0
  obtain ⟨i1, ei1⟩ := is_v gg167
  obtain rfl : w1 = (.int i1) := Option.some.inj ei1
  obtain ⟨i2, ei2⟩ := is_v gg169
  obtain rfl : w2 = (.int i2) := Option.some.inj ei2
  obtain ⟨i3, ei3⟩ := is_v gg171
  obtain rfl : w3 = (.int i3) := Option.some.inj ei3
  obtain ⟨i4, ei4⟩ := is_v gg173
  obtain rfl : w4 = (.int i4) := Option.some.inj ei4
  obtain ⟨i5, ei5⟩ := is_v gg174
  obtain rfl : w5 = (.int i5) := Option.some.inj ei5
  obtain ⟨n, o, h1, h2, h3, _, L, rfl, ⟨rfl, N⟩, hq⟩ := own_law l s _ hw tables_1 i0 i1 i2 i3 i4 i5 s.heap s.heap.size (Nat.le_refl _)  p e ha hc hk s m _ below hf ((Spec.applies_iff_loose hf).mp happ).1 ⟨rfl, State.Warmed39.refl s, rfl⟩ trivial
  refine ⟨n, _, h1, h2, h3, hpost _ _ _ _ _ _ ⟨Cond.after_iff.mpr rfl, Cond.after_iff.mpr (eq_i res_at (Term.int_eval (1)) rfl), trivial⟩ ⟨hq.1, hq.2.1, (hq.2.2.sift fun y hy => Or.inr (N y hy)).mono (by decide) (by decide)⟩⟩
theorem main_1_1 : Claimed_1_1 := comes_1 fun _ _ _ _ _ _ h hF => ⟨h.1, hF⟩
theorem main_1_2 : Claimed_1_2 := comes_1 fun _ _ _ _ _ _ h hF => ⟨h.2.1, hF⟩
end Jvm.Pilot.@@N@@
namespace Jvm.Pilot.@@N@@
open Jvm Jvm.ClassFile Sem Op Lib Jvm.Free Jvm.Stand Jvm.Pilot.@@N@@.Jvm.D
/-! MADE BY PROGRAM (witnessworld.py) out of the Statement's table words and the real class files: 16 classes; the members and pool entries that the words name. The judged class is class 1, her method 1. -/
namespace start1
open Jvm.ClassFile
def u (s : String) : CpInfo := .utf8 (stringToUtf16 s)
/-- a pool by its gaps: so many unusable entries, then the entry; so many at the end -/
def gap : Nat → List CpInfo → List CpInfo
  | 0, r => r
  | n + 1, r => .unusable :: gap n r
def poolList (es : List (Nat × CpInfo)) (last : Nat) : List CpInfo := es.foldr (fun e r => gap e.1 (e.2 :: r)) (gap last [])
def pool (es : List (Nat × CpInfo)) (last : Nat) : Array CpInfo := ⟨poolList es last⟩
def fileOf (pool : Array CpInfo) (this : Nat) (attrs : Array Attribute := #[]) (ms : Array MethodInfo := #[]) (fl : Nat := 33) (sup : Nat := 0) (ifs : Array Nat := #[]) (fds : Array FieldInfo := #[]) : ClassFile where
  minorVersion := 0
  majorVersion := 65
  constantPool := pool
  accessFlags := fl
  thisClass := this
  superClass := sup
  interfaces := ifs
  fields := fds
  methods := ms
  attributes := attrs
def plain (name : String) (sup : Option ClassId) : Class where
  name := name
  kind := .ordinary
  loader := none
  accessFlags := 33
  super := sup
  interfaces := #[]
  cf := none
  fields := #[]
  methods := #[]
  instanceTypes := #[]
  staticTypes := #[]
  resolved := #[]
  callSites := []
  init := .initialized
  statics := none
  mirror := none

def pool0 : Array CpInfo := pool [(5, u "<init>"), (0, u "()V"), (1, .class_ 10), (1, u "java/lang/Object")] 113

def k0c0 : Code := { maxStack := 0, maxLocals := 1, code := object_method_1_code, exceptionTable := #[], attributes := #[] }
def k0m0 : Method := { name := "<init>", desc := "()V", sig := { parameters := [], returnType := none }, accessFlags := 1, code := some k0c0 }
/-- java/lang/Object -/
def k0 : Class := { plain "java/lang/Object" none with
  accessFlags := 33
  interfaces := #[]
  cf := some (fileOf pool0 8 #[] #[{ accessFlags := 1, nameIndex := 5, descriptorIndex := 6, attributes := #[] }] 33 0 #[] #[])
  fields := #[]
  methods := #[k0m0]
  instanceTypes := #[]
  staticTypes := #[]
  resolved := Array.replicate 124 none
  statics := none }

def pool1 : Array CpInfo := pool [(2, .class_ 4), (1, u "java/lang/Object"), (0, u "<init>"), (0, u "()V"), (0, .integer 2147483647), (0, .class_ 9), (0, u "com/example/metrilog/metrilog/Slots"), (0, .methodref 8 11), (0, .nameAndType 5 12), (0, u "(I)V"), (0, .methodref 8 14), (0, .nameAndType 15 16), (0, u "first"), (0, u "(I)I"), (0, .methodref 8 18), (0, .nameAndType 19 20), (0, u "fill"), (0, u "(III)V"), (0, .methodref 8 22), (0, .nameAndType 23 24), (0, u "next"), (0, u "(II)I"), (0, .methodref 8 26), (0, .nameAndType 27 28), (0, u "replace"), (0, u "(II)V"), (0, .methodref 8 30), (0, .nameAndType 31 16), (0, u "entry"), (0, .class_ 33), (0, u "com/example/metrilog/metrilog/SlotsReplacePinLaw"), (2, u "law"), (0, u "(IIIIII)Z")] 3

def k1m0 : Method := { name := "<init>", desc := "()V", sig := { parameters := [], returnType := none }, accessFlags := 1, code := none }
def k1c1 : Code := { maxStack := 4, maxLocals := 18, code := code, exceptionTable := #[], attributes := #[] }
def k1m1 : Method := { name := "law", desc := "(IIIIII)Z", sig := { parameters := [.int, .int, .int, .int, .int, .int], returnType := some .boolean }, accessFlags := 9, code := some k1c1 }
/-- com/example/metrilog/metrilog/SlotsReplacePinLaw -/
def k1 : Class := { plain "com/example/metrilog/metrilog/SlotsReplacePinLaw" (some 0) with
  accessFlags := 49
  interfaces := #[]
  cf := some (fileOf pool1 32 #[] #[{ accessFlags := 1, nameIndex := 5, descriptorIndex := 6, attributes := #[] }, { accessFlags := 9, nameIndex := 36, descriptorIndex := 37, attributes := #[] }] 49 2 #[] #[])
  fields := #[]
  methods := #[k1m0, k1m1]
  instanceTypes := #[]
  staticTypes := #[]
  resolved := Array.replicate 41 none
  statics := none }

def pool2 : Array CpInfo := pool [(2, .class_ 4), (1, u "com/example/metrilog/metrilog/Slots"), (0, u "<init>"), (0, u "(I)V"), (0, .methodref 8 9), (0, .class_ 10), (0, .nameAndType 5 11), (0, u "java/lang/Object"), (0, u "()V"), (0, .long 4), (1, .long 3), (1, .fieldref 2 17), (0, .nameAndType 18 19), (0, u "slots"), (0, u "[J"), (0, .methodref 21 22), (0, .class_ 23), (0, .nameAndType 24 25), (0, u "java/lang/Integer"), (0, u "numberOfLeadingZeros"), (0, u "(I)I"), (0, .fieldref 2 27), (0, .nameAndType 28 29), (0, u "shift"), (0, u "I"), (8, u "(II)I"), (9, .methodref 2 49), (0, .nameAndType 50 25), (0, u "home"), (0, .methodref 2 52), (0, .nameAndType 53 38), (0, u "from"), (0, .methodref 2 55), (0, .nameAndType 56 25), (0, u "following"), (0, .long 18446744069414584320), (1, .fieldref 2 60), (0, .nameAndType 61 29), (0, u "filled"), (3, .methodref 2 66), (0, .nameAndType 67 25), (0, u "mixed"), (0, .integer 2654435769), (0, u "EMPTY"), (2, u "FIRST_LENGTH"), (1, u "ORDER_BITS"), (10, u "first"), (0, u "next"), (0, u "entry"), (0, u "replace"), (0, u "(II)V"), (0, u "fill"), (0, u "(III)V")] 3

def k2m0 : Method := { name := "<init>", desc := "()V", sig := { parameters := [], returnType := none }, accessFlags := 0, code := none }
def k2c1 : Code := { maxStack := 6, maxLocals := 3, code := prog_93_method_2_code, exceptionTable := #[], attributes := #[] }
def k2m1 : Method := { name := "<init>", desc := "(I)V", sig := { parameters := [.int], returnType := none }, accessFlags := 0, code := some k2c1 }
def k2c2 : Code := { maxStack := 3, maxLocals := 2, code := prog_93_method_5_code, exceptionTable := #[], attributes := #[] }
def k2m2 : Method := { name := "first", desc := "(I)I", sig := { parameters := [.int], returnType := some .int }, accessFlags := 0, code := some k2c2 }
def k2c3 : Code := { maxStack := 3, maxLocals := 3, code := prog_93_method_6_code, exceptionTable := #[], attributes := #[] }
def k2m3 : Method := { name := "next", desc := "(II)I", sig := { parameters := [.int, .int], returnType := some .int }, accessFlags := 0, code := some k2c3 }
def k2c4 : Code := { maxStack := 2, maxLocals := 2, code := prog_93_method_7_code, exceptionTable := #[], attributes := #[] }
def k2m4 : Method := { name := "entry", desc := "(I)I", sig := { parameters := [.int], returnType := some .int }, accessFlags := 0, code := some k2c4 }
def k2c5 : Code := { maxStack := 8, maxLocals := 3, code := prog_93_method_8_code, exceptionTable := #[], attributes := #[] }
def k2m5 : Method := { name := "replace", desc := "(II)V", sig := { parameters := [.int, .int], returnType := none }, accessFlags := 0, code := some k2c5 }
def k2c6 : Code := { maxStack := 8, maxLocals := 4, code := prog_93_method_9_code, exceptionTable := #[], attributes := #[] }
def k2m6 : Method := { name := "fill", desc := "(III)V", sig := { parameters := [.int, .int, .int], returnType := none }, accessFlags := 0, code := some k2c6 }
def k2c7 : Code := { maxStack := 4, maxLocals := 4, code := prog_93_method_10_code, exceptionTable := #[], attributes := #[] }
def k2m7 : Method := { name := "from", desc := "(II)I", sig := { parameters := [.int, .int], returnType := some .int }, accessFlags := 2, code := some k2c7 }
def k2c8 : Code := { maxStack := 3, maxLocals := 2, code := prog_93_method_11_code, exceptionTable := #[], attributes := #[] }
def k2m8 : Method := { name := "following", desc := "(I)I", sig := { parameters := [.int], returnType := some .int }, accessFlags := 2, code := some k2c8 }
def k2c9 : Code := { maxStack := 2, maxLocals := 2, code := prog_93_method_13_code, exceptionTable := #[], attributes := #[] }
def k2m9 : Method := { name := "home", desc := "(I)I", sig := { parameters := [.int], returnType := some .int }, accessFlags := 2, code := some k2c9 }
def k2c10 : Code := { maxStack := 2, maxLocals := 1, code := prog_93_method_15_code, exceptionTable := #[], attributes := #[] }
def k2m10 : Method := { name := "mixed", desc := "(I)I", sig := { parameters := [.int], returnType := some .int }, accessFlags := 10, code := some k2c10 }
/-- com/example/metrilog/metrilog/Slots -/
def k2 : Class := { plain "com/example/metrilog/metrilog/Slots" (some 0) with
  accessFlags := 32
  interfaces := #[]
  cf := some (fileOf pool2 2 #[] #[{ accessFlags := 0, nameIndex := 5, descriptorIndex := 11, attributes := #[] }, { accessFlags := 0, nameIndex := 5, descriptorIndex := 6, attributes := #[] }, { accessFlags := 0, nameIndex := 85, descriptorIndex := 25, attributes := #[] }, { accessFlags := 0, nameIndex := 86, descriptorIndex := 38, attributes := #[] }, { accessFlags := 0, nameIndex := 87, descriptorIndex := 25, attributes := #[] }, { accessFlags := 0, nameIndex := 88, descriptorIndex := 89, attributes := #[] }, { accessFlags := 0, nameIndex := 90, descriptorIndex := 91, attributes := #[] }, { accessFlags := 2, nameIndex := 53, descriptorIndex := 38, attributes := #[] }, { accessFlags := 2, nameIndex := 56, descriptorIndex := 25, attributes := #[] }, { accessFlags := 2, nameIndex := 50, descriptorIndex := 25, attributes := #[] }, { accessFlags := 10, nameIndex := 67, descriptorIndex := 25, attributes := #[] }] 32 8 #[] #[{ accessFlags := 24, nameIndex := 69, descriptorIndex := 29, attributes := #[] }, { accessFlags := 26, nameIndex := 72, descriptorIndex := 29, attributes := #[] }, { accessFlags := 26, nameIndex := 74, descriptorIndex := 29, attributes := #[] }, { accessFlags := 2, nameIndex := 18, descriptorIndex := 19, attributes := #[] }, { accessFlags := 2, nameIndex := 28, descriptorIndex := 29, attributes := #[] }, { accessFlags := 2, nameIndex := 61, descriptorIndex := 29, attributes := #[] }])
  fields := #[{ name := "EMPTY", type := .int, accessFlags := 24, slot := 0, constantValue := 0 }, { name := "FIRST_LENGTH", type := .int, accessFlags := 26, slot := 1, constantValue := 0 }, { name := "ORDER_BITS", type := .int, accessFlags := 26, slot := 2, constantValue := 0 }, { name := "slots", type := (.array .long), accessFlags := 2, slot := 0, constantValue := 0 }, { name := "shift", type := .int, accessFlags := 2, slot := 1, constantValue := 0 }, { name := "filled", type := .int, accessFlags := 2, slot := 2, constantValue := 0 }]
  methods := #[k2m0, k2m1, k2m2, k2m3, k2m4, k2m5, k2m6, k2m7, k2m8, k2m9, k2m10]
  instanceTypes := #[(.array .long), .int, .int]
  staticTypes := #[.int, .int, .int]
  resolved := Array.replicate 95 none
  statics := none }

def pool3 : Array CpInfo := pool [(1, .class_ 2), (0, u "java/io/Serializable"), (0, .class_ 4), (0, u "java/lang/Object")] 2

/-- java/io/Serializable -/
def k3 : Class := { plain "java/io/Serializable" (some 0) with
  accessFlags := 1537
  interfaces := #[]
  cf := some (fileOf pool3 1 #[] #[] 1537 3 #[] #[])
  fields := #[]
  methods := #[]
  instanceTypes := #[]
  staticTypes := #[]
  resolved := Array.replicate 7 none
  statics := none }

def pool4 : Array CpInfo := pool [(2, .class_ 4), (1, u "java/lang/Object"), (0, u "<init>"), (0, u "()V"), (1, .class_ 10), (1, u "java/lang/Number"), (2, .class_ 14), (0, u "java/io/Serializable"), (0, u "serialVersionUID"), (0, u "J")] 20

def k4m0 : Method := { name := "<init>", desc := "()V", sig := { parameters := [], returnType := none }, accessFlags := 1, code := none }
/-- java/lang/Number -/
def k4 : Class := { plain "java/lang/Number" (some 0) with
  accessFlags := 1057
  interfaces := #[3]
  cf := some (fileOf pool4 8 #[] #[{ accessFlags := 1, nameIndex := 5, descriptorIndex := 6, attributes := #[] }] 1057 2 #[13] #[{ accessFlags := 26, nameIndex := 15, descriptorIndex := 16, attributes := #[] }])
  fields := #[{ name := "serialVersionUID", type := .long, accessFlags := 26, slot := 0, constantValue := 0 }]
  methods := #[k4m0]
  instanceTypes := #[]
  staticTypes := #[.long]
  resolved := Array.replicate 37 none
  statics := none }

def pool5 : Array CpInfo := pool [(1, .class_ 2), (0, u "java/lang/Comparable"), (0, .class_ 4), (0, u "java/lang/Object")] 7

/-- java/lang/Comparable -/
def k5 : Class := { plain "java/lang/Comparable" (some 0) with
  accessFlags := 1537
  interfaces := #[]
  cf := some (fileOf pool5 1 #[] #[] 1537 3 #[] #[])
  fields := #[]
  methods := #[]
  instanceTypes := #[]
  staticTypes := #[]
  resolved := Array.replicate 12 none
  statics := none }

def pool6 : Array CpInfo := pool [(1, .class_ 2), (0, u "java/lang/constant/Constable"), (0, .class_ 4), (0, u "java/lang/Object")] 6

/-- java/lang/constant/Constable -/
def k6 : Class := { plain "java/lang/constant/Constable" (some 0) with
  accessFlags := 1537
  interfaces := #[]
  cf := some (fileOf pool6 1 #[] #[] 1537 3 #[] #[])
  fields := #[]
  methods := #[]
  instanceTypes := #[]
  staticTypes := #[]
  resolved := Array.replicate 11 none
  statics := none }

def pool7 : Array CpInfo := pool [(1, .class_ 2), (0, u "java/lang/constant/ConstantDesc"), (0, .class_ 4), (0, u "java/lang/Object")] 32

/-- java/lang/constant/ConstantDesc -/
def k7 : Class := { plain "java/lang/constant/ConstantDesc" (some 0) with
  accessFlags := 1537
  interfaces := #[]
  cf := some (fileOf pool7 1 #[] #[] 1537 3 #[] #[])
  fields := #[]
  methods := #[]
  instanceTypes := #[]
  staticTypes := #[]
  resolved := Array.replicate 37 none
  statics := none }

def pool8 : Array CpInfo := pool [(1, .class_ 2), (0, u "java/lang/Integer"), (16, u "digits"), (0, u "[C"), (32, u "numberOfLeadingZeros"), (0, u "(I)I"), (30, u "DigitOnes"), (0, u "[B"), (2, u "DigitTens"), (99, .class_ 190), (0, u "java/lang/Integer$IntegerCache"), (3, u "I"), (8, .class_ 204), (0, u "java/lang/Number"), (2, u "value"), (56, .integer 65536), (37, u "TYPE"), (0, u "Ljava/lang/Class;"), (0, .class_ 305), (0, u "java/lang/Comparable"), (0, .class_ 307), (0, u "java/lang/constant/Constable"), (0, .class_ 309), (0, u "java/lang/constant/ConstantDesc"), (0, u "MIN_VALUE"), (1, u "MAX_VALUE"), (3, u "SIZE"), (1, u "BYTES"), (1, u "serialVersionUID"), (0, u "J")] 131

def k8c0 : Code := { maxStack := 3, maxLocals := 2, code := jdk_33_method_47_code, exceptionTable := #[], attributes := #[] }
def k8m0 : Method := { name := "numberOfLeadingZeros", desc := "(I)I", sig := { parameters := [.int], returnType := some .int }, accessFlags := 9, code := some k8c0 }
/-- java/lang/Integer -/
def k8 : Class := { plain "java/lang/Integer" (some 4) with
  accessFlags := 49
  interfaces := #[5, 6, 7]
  cf := some (fileOf pool8 1 #[.nestMembers #[189]] #[{ accessFlags := 9, nameIndex := 53, descriptorIndex := 54, attributes := #[] }] 49 203 #[304, 306, 308] #[{ accessFlags := 25, nameIndex := 310, descriptorIndex := 194, attributes := #[] }, { accessFlags := 25, nameIndex := 312, descriptorIndex := 194, attributes := #[] }, { accessFlags := 25, nameIndex := 302, descriptorIndex := 303, attributes := #[] }, { accessFlags := 24, nameIndex := 19, descriptorIndex := 20, attributes := #[] }, { accessFlags := 24, nameIndex := 89, descriptorIndex := 86, attributes := #[] }, { accessFlags := 24, nameIndex := 85, descriptorIndex := 86, attributes := #[] }, { accessFlags := 18, nameIndex := 207, descriptorIndex := 194, attributes := #[] }, { accessFlags := 25, nameIndex := 316, descriptorIndex := 194, attributes := #[] }, { accessFlags := 25, nameIndex := 318, descriptorIndex := 194, attributes := #[] }, { accessFlags := 26, nameIndex := 320, descriptorIndex := 321, attributes := #[] }])
  fields := #[{ name := "MIN_VALUE", type := .int, accessFlags := 25, slot := 0, constantValue := 0 }, { name := "MAX_VALUE", type := .int, accessFlags := 25, slot := 1, constantValue := 0 }, { name := "TYPE", type := (.object "java/lang/Class"), accessFlags := 25, slot := 2, constantValue := 0 }, { name := "digits", type := (.array .char), accessFlags := 24, slot := 3, constantValue := 0 }, { name := "DigitTens", type := (.array .byte), accessFlags := 24, slot := 4, constantValue := 0 }, { name := "DigitOnes", type := (.array .byte), accessFlags := 24, slot := 5, constantValue := 0 }, { name := "value", type := .int, accessFlags := 18, slot := 0, constantValue := 0 }, { name := "SIZE", type := .int, accessFlags := 25, slot := 6, constantValue := 0 }, { name := "BYTES", type := .int, accessFlags := 25, slot := 7, constantValue := 0 }, { name := "serialVersionUID", type := .long, accessFlags := 26, slot := 8, constantValue := 0 }]
  methods := #[k8m0]
  instanceTypes := #[.int]
  staticTypes := #[.int, .int, (.object "java/lang/Class"), (.array .char), (.array .byte), (.array .byte), .int, .int, .long]
  resolved := Array.replicate 453 none
  statics := none }

def pool9 : Array CpInfo := pool [(1, u "java/lang/Cloneable"), (0, .class_ 1), (0, u "java/lang/Object"), (0, .class_ 3)] 3

/-- java/lang/Cloneable -/
def k9 : Class := { plain "java/lang/Cloneable" (some 0) with
  accessFlags := 1537
  interfaces := #[]
  cf := some (fileOf pool9 2 #[] #[] 1537 4 #[] #[])
  fields := #[]
  methods := #[]
  instanceTypes := #[]
  staticTypes := #[]
  resolved := Array.replicate 8 none
  statics := none }

/-- the primitive byte -/
def k10 : Class := { plain "byte" none with kind := .primitive 'B', accessFlags := 0x411 }
/-- [B -/
def k11 : Class := { plain "[B" (some 0) with kind := .array 10 .byte, interfaces := #[9, 3], accessFlags := 1041 }

/-- the primitive int -/
def k12 : Class := { plain "int" none with kind := .primitive 'I', accessFlags := 0x411 }
/-- [I -/
def k13 : Class := { plain "[I" (some 0) with kind := .array 12 .int, interfaces := #[9, 3], accessFlags := 1041 }

/-- the primitive long -/
def k14 : Class := { plain "long" none with kind := .primitive 'J', accessFlags := 0x411 }
/-- [J -/
def k15 : Class := { plain "[J" (some 0) with kind := .array 14 .long, interfaces := #[9, 3], accessFlags := 1041 }

def heap : Heap := #[]
def classes : Array Class := #[k0, k1, k2, k3, k4, k5, k6, k7, k8, k9, k10, k11, k12, k13, k14, k15]
def interned : List (Array UInt16 × Addr) := []
def slotsUsed : Nat := 0
def theMethod : MethodId := ⟨1, 1⟩
def args0 : Array Value := #[.int 5, .int 3, .int 0, .int 1, .int 2, .int 7]
def aboutOver (below : List Frame) : State where
  vm := { classes := classes, interned := interned.toArray }
  heap := heap
  slotsUsed := slotsUsed
  threads := #[{ frames := .invoking theMethod args0 :: below }]
def below0 : List Frame := [.native { method := ⟨0, 0⟩, args := #[] }]
def about1 : State := aboutOver below0
def p0 : Program := .bare "" "" ""
def e0 : Env := launch0.env 0 0 0
theorem w_frames : about1.frames = Frame.invoking theMethod args0 :: below0 := rfl
set_option maxRecDepth 65536 in
theorem w_args : argsFit about1.vm theMethod args0 = true := by decide +kernel
set_option maxRecDepth 65536 in
theorem w_heap : heapFits about1 = true := by decide +kernel
set_option maxRecDepth 65536 in
theorem w_runnable : about1.curStatus? = some .runnable := by decide +kernel
set_option maxRecDepth 65536 in
theorem w_alone : about1.alone = true := by decide +kernel
set_option maxRecDepth 65536 in
theorem w_named : about1.methodNamed? x = some theMethod := by decide +kernel
set_option maxRecDepth 65536 in
theorem w_hears : about1.hears theMethod below0 = true := by decide +kernel
set_option maxRecDepth 65536 in
theorem w_ripe : about1.ripe theMethod args0 below0 = true := by decide +kernel
theorem w_running : about1.status = .running := rfl
set_option maxRecDepth 65536 in
theorem w_room : about1.hasRoom e0.platform room_1 = true :=
  launch0.hasRoom_least _ room_1 (by decide +kernel) (by decide +kernel) (by decide +kernel) (by decide +kernel) (by decide +kernel) (by decide +kernel)
theorem allAtoms_all (ts : List Jvm.Cond) (a : Array Jvm.Value) (st : Jvm.State) : (allAtoms ts).before a st = ts.all (fun c => c.before a st) := by
  induction ts with
  | nil => rfl
  | cons c t ih =>
    show (Jvm.Cond.and c (allAtoms t)).before a st = _
    rw [Jvm.Cond.before_and, ih, List.all_cons]
def words1 : List Jvm.Cond := Jvm.Cond.code x code maxLocals ret :: tables_1
/-- a 'code' word, met by the world's own term for the bytes: nothing is compared byte by byte -/
theorem code_word {y : MethodName} {bytes : ByteArray} {mx : Nat} {rt : Option FieldType} {a : Array Value} {s : State} {m : MethodId} {meth : Method} {c : Code} (h1 : s.methodNamed? y = some m) (h2 : s.vm.method? m = some meth) (h3 : meth.code = some c) (h4 : c.code = bytes)
    (h5 : (c.maxLocals == mx && c.exceptionTable.isEmpty && decide (c.maxStack ≤ mostOperands) && decide (meth.sig.returnType = rt) && !meth.locks && decide (parseMethodDescriptor y.desc = some meth.sig)) = true) : (Jvm.Cond.code y bytes mx rt).before a s = true := by
  simp only [Bool.and_eq_true, beq_iff_eq, Bool.not_eq_true', decide_eq_true_eq] at h5
  obtain ⟨⟨⟨⟨⟨g1, g2⟩, g3⟩, g4⟩, g5⟩, g6⟩ := h5
  simp [Cond.before, Cond.holds, Cond.value, h1, h2, h3, h4, g1, g2, g3, g4, g5, g6]
def isCode : Jvm.Cond → Bool
  | .code _ _ _ _ => true
  | _ => false
theorem all_split {L : List Jvm.Cond} {P : Jvm.Cond → Bool} (h1 : L.all (fun c => isCode c || P c) = true) (h2 : ∀ c ∈ L.filter isCode, P c = true) : L.all P = true := by
  refine List.all_eq_true.mpr fun c hc => ?_
  have h := List.all_eq_true.mp h1 c hc
  rcases Bool.eq_false_or_eq_true (isCode c) with hi | hi
  · exact h2 c (List.mem_filter.mpr ⟨hc, hi⟩)
  · simpa [hi] using h
set_option maxRecDepth 65536 in
theorem w_c0 : (Jvm.Cond.code x code maxLocals ret).before args0 about1 = true := code_word (m := ⟨1, 1⟩) (meth := k1m1) (c := k1c1) (by decide +kernel) rfl rfl rfl (by decide +kernel)
set_option maxRecDepth 65536 in
theorem w_c1 : (Jvm.Cond.code ({ cls := "com/example/metrilog/metrilog/Slots", name := "<init>", desc := "(I)V" } : Jvm.MethodName) prog_93_method_2_code (3 : Nat) (Option.none : Option Jvm.ClassFile.FieldType)).before args0 about1 = true := code_word (m := ⟨2, 1⟩) (meth := k2m1) (c := k2c1) (by decide +kernel) rfl rfl rfl (by decide +kernel)
set_option maxRecDepth 65536 in
theorem w_c2 : (Jvm.Cond.code ({ cls := "java/lang/Object", name := "<init>", desc := "()V" } : Jvm.MethodName) object_method_1_code (1 : Nat) (Option.none : Option Jvm.ClassFile.FieldType)).before args0 about1 = true := code_word (m := ⟨0, 0⟩) (meth := k0m0) (c := k0c0) (by decide +kernel) rfl rfl rfl (by decide +kernel)
set_option maxRecDepth 65536 in
theorem w_c3 : (Jvm.Cond.code ({ cls := "java/lang/Integer", name := "numberOfLeadingZeros", desc := "(I)I" } : Jvm.MethodName) jdk_33_method_47_code (2 : Nat) (Option.some Jvm.ClassFile.FieldType.int)).before args0 about1 = true := code_word (m := ⟨8, 0⟩) (meth := k8m0) (c := k8c0) (by decide +kernel) rfl rfl rfl (by decide +kernel)
set_option maxRecDepth 65536 in
theorem w_c4 : (Jvm.Cond.code ({ cls := "com/example/metrilog/metrilog/Slots", name := "first", desc := "(I)I" } : Jvm.MethodName) prog_93_method_5_code (2 : Nat) (Option.some Jvm.ClassFile.FieldType.int)).before args0 about1 = true := code_word (m := ⟨2, 2⟩) (meth := k2m2) (c := k2c2) (by decide +kernel) rfl rfl rfl (by decide +kernel)
set_option maxRecDepth 65536 in
theorem w_c5 : (Jvm.Cond.code ({ cls := "com/example/metrilog/metrilog/Slots", name := "home", desc := "(I)I" } : Jvm.MethodName) prog_93_method_13_code (2 : Nat) (Option.some Jvm.ClassFile.FieldType.int)).before args0 about1 = true := code_word (m := ⟨2, 9⟩) (meth := k2m9) (c := k2c9) (by decide +kernel) rfl rfl rfl (by decide +kernel)
set_option maxRecDepth 65536 in
theorem w_c6 : (Jvm.Cond.code ({ cls := "com/example/metrilog/metrilog/Slots", name := "mixed", desc := "(I)I" } : Jvm.MethodName) prog_93_method_15_code (1 : Nat) (Option.some Jvm.ClassFile.FieldType.int)).before args0 about1 = true := code_word (m := ⟨2, 10⟩) (meth := k2m10) (c := k2c10) (by decide +kernel) rfl rfl rfl (by decide +kernel)
set_option maxRecDepth 65536 in
theorem w_c7 : (Jvm.Cond.code ({ cls := "com/example/metrilog/metrilog/Slots", name := "from", desc := "(II)I" } : Jvm.MethodName) prog_93_method_10_code (4 : Nat) (Option.some Jvm.ClassFile.FieldType.int)).before args0 about1 = true := code_word (m := ⟨2, 7⟩) (meth := k2m7) (c := k2c7) (by decide +kernel) rfl rfl rfl (by decide +kernel)
set_option maxRecDepth 65536 in
theorem w_c8 : (Jvm.Cond.code ({ cls := "com/example/metrilog/metrilog/Slots", name := "fill", desc := "(III)V" } : Jvm.MethodName) prog_93_method_9_code (4 : Nat) (Option.none : Option Jvm.ClassFile.FieldType)).before args0 about1 = true := code_word (m := ⟨2, 6⟩) (meth := k2m6) (c := k2c6) (by decide +kernel) rfl rfl rfl (by decide +kernel)
set_option maxRecDepth 65536 in
theorem w_c9 : (Jvm.Cond.code ({ cls := "com/example/metrilog/metrilog/Slots", name := "replace", desc := "(II)V" } : Jvm.MethodName) prog_93_method_8_code (3 : Nat) (Option.none : Option Jvm.ClassFile.FieldType)).before args0 about1 = true := code_word (m := ⟨2, 5⟩) (meth := k2m5) (c := k2c5) (by decide +kernel) rfl rfl rfl (by decide +kernel)
set_option maxRecDepth 65536 in
theorem w_c10 : (Jvm.Cond.code ({ cls := "com/example/metrilog/metrilog/Slots", name := "entry", desc := "(I)I" } : Jvm.MethodName) prog_93_method_7_code (2 : Nat) (Option.some Jvm.ClassFile.FieldType.int)).before args0 about1 = true := code_word (m := ⟨2, 4⟩) (meth := k2m4) (c := k2c4) (by decide +kernel) rfl rfl rfl (by decide +kernel)
set_option maxRecDepth 65536 in
theorem w_c11 : (Jvm.Cond.code ({ cls := "com/example/metrilog/metrilog/Slots", name := "following", desc := "(I)I" } : Jvm.MethodName) prog_93_method_11_code (2 : Nat) (Option.some Jvm.ClassFile.FieldType.int)).before args0 about1 = true := code_word (m := ⟨2, 8⟩) (meth := k2m8) (c := k2c8) (by decide +kernel) rfl rfl rfl (by decide +kernel)
set_option maxRecDepth 65536 in
theorem w_c12 : (Jvm.Cond.code ({ cls := "com/example/metrilog/metrilog/Slots", name := "next", desc := "(II)I" } : Jvm.MethodName) prog_93_method_6_code (3 : Nat) (Option.some Jvm.ClassFile.FieldType.int)).before args0 about1 = true := code_word (m := ⟨2, 3⟩) (meth := k2m3) (c := k2c3) (by decide +kernel) rfl rfl rfl (by decide +kernel)
def codes1 : List Jvm.Cond := [Jvm.Cond.code x code maxLocals ret, Jvm.Cond.code ({ cls := "com/example/metrilog/metrilog/Slots", name := "<init>", desc := "(I)V" } : Jvm.MethodName) prog_93_method_2_code (3 : Nat) (Option.none : Option Jvm.ClassFile.FieldType), Jvm.Cond.code ({ cls := "java/lang/Object", name := "<init>", desc := "()V" } : Jvm.MethodName) object_method_1_code (1 : Nat) (Option.none : Option Jvm.ClassFile.FieldType), Jvm.Cond.code ({ cls := "java/lang/Integer", name := "numberOfLeadingZeros", desc := "(I)I" } : Jvm.MethodName) jdk_33_method_47_code (2 : Nat) (Option.some Jvm.ClassFile.FieldType.int), Jvm.Cond.code ({ cls := "com/example/metrilog/metrilog/Slots", name := "first", desc := "(I)I" } : Jvm.MethodName) prog_93_method_5_code (2 : Nat) (Option.some Jvm.ClassFile.FieldType.int), Jvm.Cond.code ({ cls := "com/example/metrilog/metrilog/Slots", name := "home", desc := "(I)I" } : Jvm.MethodName) prog_93_method_13_code (2 : Nat) (Option.some Jvm.ClassFile.FieldType.int), Jvm.Cond.code ({ cls := "com/example/metrilog/metrilog/Slots", name := "mixed", desc := "(I)I" } : Jvm.MethodName) prog_93_method_15_code (1 : Nat) (Option.some Jvm.ClassFile.FieldType.int), Jvm.Cond.code ({ cls := "com/example/metrilog/metrilog/Slots", name := "from", desc := "(II)I" } : Jvm.MethodName) prog_93_method_10_code (4 : Nat) (Option.some Jvm.ClassFile.FieldType.int), Jvm.Cond.code ({ cls := "com/example/metrilog/metrilog/Slots", name := "fill", desc := "(III)V" } : Jvm.MethodName) prog_93_method_9_code (4 : Nat) (Option.none : Option Jvm.ClassFile.FieldType), Jvm.Cond.code ({ cls := "com/example/metrilog/metrilog/Slots", name := "replace", desc := "(II)V" } : Jvm.MethodName) prog_93_method_8_code (3 : Nat) (Option.none : Option Jvm.ClassFile.FieldType), Jvm.Cond.code ({ cls := "com/example/metrilog/metrilog/Slots", name := "entry", desc := "(I)I" } : Jvm.MethodName) prog_93_method_7_code (2 : Nat) (Option.some Jvm.ClassFile.FieldType.int), Jvm.Cond.code ({ cls := "com/example/metrilog/metrilog/Slots", name := "following", desc := "(I)I" } : Jvm.MethodName) prog_93_method_11_code (2 : Nat) (Option.some Jvm.ClassFile.FieldType.int), Jvm.Cond.code ({ cls := "com/example/metrilog/metrilog/Slots", name := "next", desc := "(II)I" } : Jvm.MethodName) prog_93_method_6_code (3 : Nat) (Option.some Jvm.ClassFile.FieldType.int)]
set_option maxRecDepth 65536 in
theorem codes_eq : words1.filter isCode = codes1 := rfl
theorem w_codes : ∀ c ∈ words1.filter isCode, c.before args0 about1 = true := by
  rw [codes_eq]
  intro c hc
  simp only [codes1, List.mem_cons, List.not_mem_nil, or_false] at hc
  rcases hc with rfl | rfl | rfl | rfl | rfl | rfl | rfl | rfl | rfl | rfl | rfl | rfl | rfl
  · exact w_c0
  · exact w_c1
  · exact w_c2
  · exact w_c3
  · exact w_c4
  · exact w_c5
  · exact w_c6
  · exact w_c7
  · exact w_c8
  · exact w_c9
  · exact w_c10
  · exact w_c11
  · exact w_c12
set_option maxRecDepth 65536 in
theorem w_t1 : (words1.take 24).all (fun c => isCode c || c.before args0 about1) = true := by decide +kernel
set_option maxRecDepth 65536 in
theorem w_t2 : ((words1.drop 24).take 24).all (fun c => isCode c || c.before args0 about1) = true := by decide +kernel
set_option maxRecDepth 65536 in
theorem w_t3 : ((words1.drop 24).drop 24).all (fun c => isCode c || c.before args0 about1) = true := by decide +kernel
theorem w_tables : (allAtoms (Jvm.Cond.code x code maxLocals ret :: tables_1)).before args0 about1 = true := by
  rw [allAtoms_all]
  show words1.all (fun c => c.before args0 about1) = true
  refine all_split ?_ w_codes
  rw [← List.take_append_drop 24 words1, List.all_append, w_t1, ← List.take_append_drop 24 (words1.drop 24), List.all_append, w_t2, w_t3]
  rfl
set_option maxRecDepth 65536 in
theorem w_case : (Jvm.Cond.and given_1 narrow_1).before args0 about1 = true := by decide +kernel
theorem w_applies : (headSpec (Jvm.Cond.code x code maxLocals ret :: tables_1) room_1).applies x e0.platform about1 = true :=
  (Spec.applies_iff w_frames).mpr ⟨w_running, w_runnable, w_alone, w_named, w_hears, w_ripe, w_room, w_tables⟩
theorem atStart : AtStart classFile x code maxLocals ret World_1 tables_1 room_1 Calls_1 rest_1 Pre_1 launch0 p0 e0 about1 theMethod args0 below0 :=
  ⟨lists_1, trivial, launch0.admits_env _ _ _, launch0.least_env, fairChoices_fair.cas, fairChoices_fair.clock, w_frames, w_args, w_heap, w_applies, trivial, trivial, w_case⟩
end start1
theorem witness_1 : WitnessClaimed_1 := ⟨start1.p0, start1.e0, start1.about1, start1.theMethod, start1.args0, start1.below0, start1.atStart⟩
end Jvm.Pilot.@@N@@
