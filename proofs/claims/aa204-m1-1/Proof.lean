import JvmDerived
import JvmDerived.Pilot.@@N@@Statement
import JvmDerived.Pilot.@@N@@Code
set_option linter.unusedVariables false
set_option linter.unusedSimpArgs false
@@BLOCK:NumsL.lean.txt@@
namespace Jvm.RoadKit
open Sem ClassFile Op Lib Jvm.Stand Jvm.Free Jvm.LawKit
section Own
variable {p : Program} {l : Launch} {e : Env} {R : Room} {s : State} {m : MethodId} {args : Array Value} {below : List Frame} {meth : Method} {c : Code} {T : State} {locs : List Loc} {cells slots : Nat} {Z : State} {h h' : Heap} {Q : Option Value → Heap → List Loc → Prop} {kc ks : Nat}
/-- from the state S the run comes to an end of which Q holds -/
def OGo (p : Program) (e : Env) (below : List Frame) (s : State) (Q : Option Value → Heap → List Loc → Prop) (kc ks : Nat) (S : State) : Prop :=
  ∃ s₂ o, Steps p.tables e below S s₂ ∧ s₂.status = .running ∧ Ended s₂ below o ∧ ∃ v L, o = .returned v ∧ Q v s₂.heap L ∧ FrameEnd s o s₂ L kc ks
theorem OGo.on {C N : State} (st : ∀ t, Steps p.tables e below N t → Steps p.tables e below C t) (h : OGo p e below s Q kc ks N) : OGo p e below s Q kc ks C := by
  obtain ⟨s₂, o, h1, h2⟩ := h
  exact ⟨s₂, o, st _ h1, h2⟩
theorem OGo.fin (X : Stand p l e R s m args below meth c T locs cells slots) {v : Option Value} (hv : meth.sig.returnType = none → v = none) (hlocks : meth.locks = false) {C : State}
    (st : ∀ fs, (∀ (f : JFrame) (acts : List Action), f.method = m → f.locked = none → f.entered = [] → (doReturn e (T.setTop f) acts v).1 = T.setFrames fs) → Steps p.tables e below C (T.setFrames fs)) (hq : Q v T.heap locs) (hc : cells ≤ kc) (hs : slots ≤ ks) : OGo p e below s Q kc ks C := by
  obtain ⟨fs, hr, hrun, hended, hW, hsame⟩ := X.leave hv hlocks
  exact ⟨_, _, st fs hr, hrun, hended, v, locs, rfl, hq, ⟨_, rfl⟩, hW, hsame.mono hc hs⟩
theorem OGo.retN (X : Stand p l e R s m args below meth c T locs cells slots) (hx : p.tables.exec = Jvm.exec) {pc : Nat} {Ls : Array Slot} {z : Int32} {t : FieldType} {rest : List Value} (hret : meth.sig.returnType = some t) (hlocks : meth.locks = false) (ht : t = .boolean ∨ t = .byte ∨ t = .char ∨ t = .short)
    (hd : decode c.code pc = .ok (.ireturn, 1)) (hq : Q (some (.int (nar t z))) T.heap locs) (hc : cells ≤ kc) (hs : slots ≤ ks) : OGo p e below s Q kc ks (T.setTop (mkF m pc Ls (.int z :: rest))) :=
  OGo.fin X (fun h => by rw [hret] at h; cases h) hlocks (fun fs hr => Jvm.RoadKit.retN X hx hret ht hd hr) hq hc hs
theorem OGo.retI (X : Stand p l e R s m args below meth c T locs cells slots) (hx : p.tables.exec = Jvm.exec) {pc : Nat} {Ls : Array Slot} {z : Int32} {rest : List Value} (hret : meth.sig.returnType = some .int) (hlocks : meth.locks = false)
    (hd : decode c.code pc = .ok (.ireturn, 1)) (hq : Q (some (.int z)) T.heap locs) (hc : cells ≤ kc) (hs : slots ≤ ks) : OGo p e below s Q kc ks (T.setTop (mkF m pc Ls (.int z :: rest))) :=
  OGo.fin X (fun h => by rw [hret] at h; cases h) hlocks (fun fs hr => retOut X hx hret rfl (Or.inl ⟨rfl, Or.inl rfl, _, rfl⟩) hd hr) hq hc hs
theorem OGo.retJ (X : Stand p l e R s m args below meth c T locs cells slots) (hx : p.tables.exec = Jvm.exec) {pc : Nat} {Ls : Array Slot} {z : Int64} {rest : List Value} (hret : meth.sig.returnType = some .long) (hlocks : meth.locks = false)
    (hd : decode c.code pc = .ok (.lreturn, 1)) (hq : Q (some (.long z)) T.heap locs) (hc : cells ≤ kc) (hs : slots ≤ ks) : OGo p e below s Q kc ks (T.setTop (mkF m pc Ls (.long z :: rest))) :=
  OGo.fin X (fun h => by rw [hret] at h; cases h) hlocks (fun fs hr => retOut X hx hret rfl (Or.inr (Or.inl ⟨rfl, rfl, _, rfl⟩)) hd hr) hq hc hs
theorem OGo.retA (X : Stand p l e R s m args below meth c T locs cells slots) (hx : p.tables.exec = Jvm.exec) {pc : Nat} {Ls : Array Slot} {a : Addr} {t : FieldType} {rest : List Value} (hret : meth.sig.returnType = some t) (ht : t.isReference = true) (hn : narrow t (.ref a) = .ref a) (hlocks : meth.locks = false)
    (hd : decode c.code pc = .ok (.areturn, 1)) (hq : Q (some (.ref a)) T.heap locs) (hc : cells ≤ kc) (hs : slots ≤ ks) : OGo p e below s Q kc ks (T.setTop (mkF m pc Ls (.ref a :: rest))) :=
  OGo.fin X (fun h => by rw [hret] at h; cases h) hlocks (fun fs hr => retOut X hx hret hn (Or.inr (Or.inr (Or.inr (Or.inr ⟨rfl, ht, rfl⟩)))) hd hr) hq hc hs
theorem OGo.ret0 (X : Stand p l e R s m args below meth c T locs cells slots) (hx : p.tables.exec = Jvm.exec) {pc : Nat} {Ls : Array Slot} (hret : meth.sig.returnType = none) (hlocks : meth.locks = false)
    (hd : decode c.code pc = .ok (.return_, 1)) (hq : Q none T.heap locs) (hc : cells ≤ kc) (hs : slots ≤ ks) : OGo p e below s Q kc ks (T.setTop (mkF m pc Ls [])) :=
  OGo.fin X (fun _ => rfl) hlocks (fun fs hr => X.returnOut hx hret hd hr) hq hc hs
/-- the places written so far, without their names -/
theorem own_hide {k : Nat} (X : Stand p l e R s m args below meth c T locs cells slots) (N : Fr k locs) : ∃ L, Stand p l e R s m args below meth c T L cells slots ∧ Fr k L := ⟨_, X, N⟩
/-- what a body that writes nothing leaves -/
def OPure (n0 : Nat) (h0 : Heap) (r : Option Value) (v : Option Value) (h : Heap) (L : List Loc) : Prop := v = r ∧ Fr n0 L ∧ h = h0
theorem opI {n0 : Nat} {h0 : Heap} {x y : Int32} {L : List Loc} (q : x = y) (N : Fr n0 L) (E : h = h0) : OPure n0 h0 (some (.int y)) (some (.int x)) h L := ⟨by rw [q], N, E⟩
theorem opJ {n0 : Nat} {h0 : Heap} {x y : Int64} {L : List Loc} (q : x = y) (N : Fr n0 L) (E : h = h0) : OPure n0 h0 (some (.long y)) (some (.long x)) h L := ⟨by rw [q], N, E⟩
theorem own_nz1 : nar .boolean 1 = 1 := rfl
theorem own_nz0 : nar .boolean 0 = 0 := rfl
theorem own_irem {C : State} {x y : Int32} {g : JFrame} (X : Stand p l e R s m args below meth c T locs cells slots) (hx : p.tables.exec = Jvm.exec) (hg : g.method = m) {rest : List Value} (hd : decode c.code g.pc = .ok (.irem, 1)) (hs : g.stack = .int y :: .int x :: rest) (hy : y ≠ 0) :
    ∀ t, Steps p.tables e below (T.setTop { g with pc := g.pc + 1, stack := .int (x % y) :: rest }) t → Steps p.tables e below (T.setTop g) t := fun t k => iremM X hx hg hd hs hy k
/-! lcmp and the branch behind it -/
theorem own_lc (cd : ClassFile.Cond) (a b : Int64) : ifCond.holds cd (lcmpW a b) = (match cd with | .eq => decide (a = b) | .ne => !decide (a = b) | .lt => decide (a < b) | .ge => !decide (a < b) | .gt => decide (b < a) | .le => !decide (b < a)) := by
  have h1 : a = b ↔ a.toInt = b.toInt := (Int64.toInt_inj).symm
  by_cases g : a > b
  · have g' : b.toInt < a.toInt := Int64.lt_iff_toInt_lt.mp g
    have e1 : lcmpW a b = 1 := if_pos g
    have e2 : ¬ a = b := fun q => by rw [h1] at q; omega
    have e3 : ¬ a < b := fun q => by rw [Int64.lt_iff_toInt_lt] at q; omega
    have e4 : b < a := g
    rw [e1]; cases cd <;> simp [e2, e3, e4] <;> decide
  · by_cases q : a = b
    · have e1 : lcmpW a b = 0 := by rw [lcmpW, if_neg g, if_pos q]
      subst q
      have e3 : ¬ a < a := fun q => by rw [Int64.lt_iff_toInt_lt] at q; omega
      rw [e1]; cases cd <;> simp [e3] <;> decide
    · have e1 : lcmpW a b = -1 := by rw [lcmpW, if_neg g, if_neg q]
      have g1 : ¬ b < a := g
      have g2 : a < b := by rw [Int64.lt_iff_toInt_lt] at g1 ⊢; rw [h1] at q; omega
      rw [e1]; cases cd <;> simp [q, g1, g2] <;> decide
theorem lc_tlt {a b : Int64} (h : a < b) : ifCond.holds .lt (lcmpW a b) = true ∧ ifCond.holds .ge (lcmpW a b) = false ∧ ifCond.holds .gt (lcmpW b a) = true ∧ ifCond.holds .le (lcmpW b a) = false := by simp only [own_lc]; simp [h]
theorem lc_flt {a b : Int64} (h : ¬ a < b) : ifCond.holds .lt (lcmpW a b) = false ∧ ifCond.holds .ge (lcmpW a b) = true ∧ ifCond.holds .gt (lcmpW b a) = false ∧ ifCond.holds .le (lcmpW b a) = true := by simp only [own_lc]; simp [h]
theorem lc_teq {a b : Int64} (h : a = b) : ifCond.holds .eq (lcmpW a b) = true ∧ ifCond.holds .ne (lcmpW a b) = false := by simp only [own_lc]; simp [h]
theorem lc_feq {a b : Int64} (h : ¬ a = b) : ifCond.holds .eq (lcmpW a b) = false ∧ ifCond.holds .ne (lcmpW a b) = true := by simp only [own_lc]; simp [h]
theorem own_nm0 {a : Addr} : a ∉ ([] : List Addr) := fun q => nomatch q
theorem own_nm1 {a b : Addr} (h : a ≠ b) : a ∉ [b] := fun q => h (List.mem_singleton.mp q)
theorem own_nm2 {a b d : Addr} (h : a ≠ b) (h' : a ≠ d) : a ∉ [b, d] := fun q => (List.mem_cons.mp q).elim h fun q => h' (List.mem_singleton.mp q)
theorem own_nm3 {a b d f : Addr} (h : a ≠ b) (h' : a ≠ d) (h'' : a ≠ f) : a ∉ [b, d, f] := fun q => (List.mem_cons.mp q).elim h fun q => (own_nm2 h' h'') q
/-! arrays of numbers, known whole -/
/-- the array at a holds just the ints vs -/
def OAL (Z : State) (h : Heap) (a : Addr) (ty : FieldType) (vs : List Int32) : Prop := ∃ c : Cell, Arr Z h a c ty ∧ c.slots = (vs.map Value.int).toArray
/-- the array at a holds just the longs vs -/
def OAJ (Z : State) (h : Heap) (a : Addr) (vs : List Int64) : Prop := ∃ c : Cell, Arr Z h a c .long ∧ c.slots = (vs.map Value.long).toArray
/-- the place j lies inside and holds v -/
def OAt {α : Type} (vs : List α) (j : Int32) (v : α) : Prop := ¬ j < 0 ∧ vs[j.toNatClampNeg]? = some v
variable {a b : Addr} {ty : FieldType} {vs : List Int32} {us : List Int64} {ws : List Addr} {sl : Nat} {w : Value}
theorem OAL.lt (A : OAL Z h a ty vs) : a < h.size := by obtain ⟨c, A, -⟩ := A; exact A.lt
theorem OAJ.lt (A : OAJ Z h a us) : a < h.size := by obtain ⟨c, A, -⟩ := A; exact A.lt
theorem OAL.ext (A : OAL Z h a ty vs) (E : Ext h h') : OAL Z h' a ty vs := by obtain ⟨c, A, r⟩ := A; exact ⟨c, A.ext E, r⟩
theorem OAJ.ext (A : OAJ Z h a us) (E : Ext h h') : OAJ Z h' a us := by obtain ⟨c, A, r⟩ := A; exact ⟨c, A.ext E, r⟩
theorem OAL.keep (A : OAL Z h a ty vs) (K : Keep h h' ws) (q : a ∉ ws) : OAL Z h' a ty vs := by obtain ⟨c, A, r⟩ := A; exact ⟨c, ⟨K.2.1 a c A.1 q, A.2⟩, r⟩
theorem OAJ.keep (A : OAJ Z h a us) (K : Keep h h' ws) (q : a ∉ ws) : OAJ Z h' a us := by obtain ⟨c, A, r⟩ := A; exact ⟨c, ⟨K.2.1 a c A.1 q, A.2⟩, r⟩
theorem OAL.other (A : OAL Z h b ty vs) (W : Wr h h' a sl w) (q : b ≠ a) : OAL Z h' b ty vs := by obtain ⟨c, A, r⟩ := A; exact ⟨c, A.other W q, r⟩
theorem OAJ.other (A : OAJ Z h b us) (W : Wr h h' a sl w) (q : b ≠ a) : OAJ Z h' b us := by obtain ⟨c, A, r⟩ := A; exact ⟨c, A.other W q, r⟩
theorem own_slots (cl : Cell) (i : Nat) (v : Value) : (cl.setSlot i v).slots = cl.slots.setIfInBounds i v := rfl
theorem OAL.same (A : OAL Z h a ty vs) {i : Nat} {x : Int32} (W : Wr h h' a i (.int x)) : OAL Z h' a ty (vs.set i x) := by
  obtain ⟨c, A, r⟩ := A
  exact ⟨_, A.same W, by rw [own_slots, r]; simp [List.map_set]⟩
theorem OAJ.same (A : OAJ Z h a us) {i : Nat} {x : Int64} (W : Wr h h' a i (.long x)) : OAJ Z h' a (us.set i x) := by
  obtain ⟨c, A, r⟩ := A
  exact ⟨_, A.same W, by rw [own_slots, r]; simp [List.map_set]⟩
theorem OAL.new {cA : ClassId} {n : Int32} (A : Arr Z h a (newA cA ty n) ty) (q : defaultValue ty = .int 0) : OAL Z h a ty (List.replicate n.toNatClampNeg 0) := ⟨_, A, by
  show Array.replicate n.toNatClampNeg (defaultValue ty) = _
  rw [q]; simp⟩
theorem OAJ.new {cA : ClassId} {n : Int32} (A : Arr Z h a (newA cA .long n) .long) : OAJ Z h a (List.replicate n.toNatClampNeg 0) := ⟨_, A, by
  show Array.replicate n.toNatClampNeg (Value.long 0) = _
  simp⟩
theorem own_in {α : Type} {vs : List α} {f : α → Value} {j : Int32} {v : α} {cl : Cell} (r : cl.slots = (vs.map f).toArray) (q : OAt vs j v) : ¬ (j < 0 ∨ cl.slots.size ≤ j.toNatClampNeg) ∧ cl.slots[j.toNatClampNeg]? = some (f v) := by
  obtain ⟨q1, q2⟩ := q
  have hl := (List.getElem?_eq_some_iff.mp q2).1
  rw [r]
  refine ⟨fun z => z.elim q1 fun y => ?_, ?_⟩
  · simp at y; omega
  · simp [q2]
theorem OAL.baB (X : Stand p l e R s m args below meth c T locs cells slots) (hx : p.tables.exec = Jvm.exec) (hZ : Z.Warmed39 s.vm) (eT : T.heap = h) (A : OAL Z h a .byte vs) {j v : Int32} (q : OAt vs j v) {pc : Nat} {Ls : Array Slot} {rest : List Value} (hd : decode c.code pc = .ok (.baload, 1)) {t : State}
    (k : Steps p.tables e below (T.setTop (mkF m (pc + 1) Ls (.int v :: rest))) t) : Steps p.tables e below (T.setTop (mkF m pc Ls (.int j :: .ref a :: rest))) t := by
  obtain ⟨cl, A, r⟩ := A
  exact X.baloadBytes hx (j := j) (v := .int v) (by rw [eT]; exact A.1) (State.isArrayOf_alike hZ.alike A.2.1) A.2.2 (own_in r q).1 (own_in r q).2 (g := mkF m pc Ls (.int j :: .ref a :: rest)) rfl rfl hd _ k
theorem OAL.baZ (X : Stand p l e R s m args below meth c T locs cells slots) (hx : p.tables.exec = Jvm.exec) (hZ : Z.Warmed39 s.vm) (eT : T.heap = h) (A : OAL Z h a .boolean vs) {j v : Int32} (q : OAt vs j v) {pc : Nat} {Ls : Array Slot} {rest : List Value} (hd : decode c.code pc = .ok (.baload, 1)) {t : State}
    (k : Steps p.tables e below (T.setTop (mkF m (pc + 1) Ls (.int v :: rest))) t) : Steps p.tables e below (T.setTop (mkF m pc Ls (.int j :: .ref a :: rest))) t := by
  obtain ⟨cl, A, r⟩ := A
  exact X.baloadBooleans hx (j := j) (v := .int v) (by rw [eT]; exact A.1) (State.isArrayOf_alike hZ.alike A.2.1) A.2.2 (own_in r q).1 (own_in r q).2 (g := mkF m pc Ls (.int j :: .ref a :: rest)) rfl rfl hd _ k
theorem OAL.ia (X : Stand p l e R s m args below meth c T locs cells slots) (hx : p.tables.exec = Jvm.exec) (hZ : Z.Warmed39 s.vm) (eT : T.heap = h) (A : OAL Z h a .int vs) {j v : Int32} (q : OAt vs j v) {pc : Nat} {Ls : Array Slot} {rest : List Value} (hd : decode c.code pc = .ok (.iaload, 1)) {t : State}
    (k : Steps p.tables e below (T.setTop (mkF m (pc + 1) Ls (.int v :: rest))) t) : Steps p.tables e below (T.setTop (mkF m pc Ls (.int j :: .ref a :: rest))) t := by
  obtain ⟨cl, A, r⟩ := A
  exact X.iaload hx (j := j) (v := .int v) (by rw [eT]; exact A.1) (State.isArrayOf_alike hZ.alike A.2.1) A.2.2 (own_in r q).1 (own_in r q).2 (g := mkF m pc Ls (.int j :: .ref a :: rest)) rfl rfl hd _ k
theorem OAJ.la (X : Stand p l e R s m args below meth c T locs cells slots) (hx : p.tables.exec = Jvm.exec) (hZ : Z.Warmed39 s.vm) (eT : T.heap = h) (A : OAJ Z h a us) {j : Int32} {v : Int64} (q : OAt us j v) {pc : Nat} {Ls : Array Slot} {rest : List Value} (hd : decode c.code pc = .ok (.laload, 1)) {t : State}
    (k : Steps p.tables e below (T.setTop (mkF m (pc + 1) Ls (.long v :: rest))) t) : Steps p.tables e below (T.setTop (mkF m pc Ls (.int j :: .ref a :: rest))) t := by
  obtain ⟨cl, A, r⟩ := A
  exact X.laload hx (j := j) (v := .long v) (by rw [eT]; exact A.1) (State.isArrayOf_alike hZ.alike A.2.1) A.2.2 (own_in r q).1 (own_in r q).2 (g := mkF m pc Ls (.int j :: .ref a :: rest)) rfl rfl hd _ k
theorem OAL.len (X : Stand p l e R s m args below meth c T locs cells slots) (hx : p.tables.exec = Jvm.exec) (hZ : Z.Warmed39 s.vm) (eT : T.heap = h) (A : OAL Z h a ty vs) {n : Int32} (q : vs.length.toInt32 = n) {pc : Nat} {Ls : Array Slot} {rest : List Value} (hd : decode c.code pc = .ok (.arraylength, 1)) {t : State}
    (k : Steps p.tables e below (T.setTop (mkF m (pc + 1) Ls (.int n :: rest))) t) : Steps p.tables e below (T.setTop (mkF m pc Ls (.ref a :: rest))) t := by
  obtain ⟨cl, A, r⟩ := A
  have z : cl.slots.size = vs.length := by rw [r]; simp
  exact X.arraylength hx (by rw [eT]; exact A.1) (State.isArrayOf_alike hZ.alike A.2.1) (g := mkF m pc Ls (.ref a :: rest)) rfl rfl hd _ (by rw [z, q]; exact k)
theorem OAJ.len (X : Stand p l e R s m args below meth c T locs cells slots) (hx : p.tables.exec = Jvm.exec) (hZ : Z.Warmed39 s.vm) (eT : T.heap = h) (A : OAJ Z h a us) {n : Int32} (q : us.length.toInt32 = n) {pc : Nat} {Ls : Array Slot} {rest : List Value} (hd : decode c.code pc = .ok (.arraylength, 1)) {t : State}
    (k : Steps p.tables e below (T.setTop (mkF m (pc + 1) Ls (.int n :: rest))) t) : Steps p.tables e below (T.setTop (mkF m pc Ls (.ref a :: rest))) t := by
  obtain ⟨cl, A, r⟩ := A
  have z : cl.slots.size = us.length := by rw [r]; simp
  exact X.arraylength hx (by rw [eT]; exact A.1) (State.isArrayOf_alike hZ.alike A.2.1) (g := mkF m pc Ls (.ref a :: rest)) rfl rfl hd _ (by rw [z, q]; exact k)
theorem own_into {α : Type} {vs : List α} {f : α → Value} {j : Int32} {cl : Cell} (r : cl.slots = (vs.map f).toArray) (q1 : ¬ j < 0) (q2 : j.toNatClampNeg < vs.length) : ¬ (j < 0 ∨ cl.slots.size ≤ j.toNatClampNeg) := by
  rw [r]
  exact fun z => z.elim q1 fun y => by simp at y; omega
theorem OAL.stB (X : Stand p l e R s m args below meth c T locs cells slots) (hx : p.tables.exec = Jvm.exec) (hZ : Z.Warmed39 s.vm) (eT : T.heap = h) (A : OAL Z h a .byte vs) {j x : Int32} (q1 : ¬ j < 0) (q2 : j.toNatClampNeg < vs.length) {pc : Nat} {Ls : Array Slot} {rest : List Value} (hd : decode c.code pc = .ok (.bastore, 1)) :
    ∃ T' h', Stand p l e R s m args below meth c T' (locs ++ [⟨a, j.toNatClampNeg⟩]) cells slots ∧ T'.heap = h' ∧ Wr h h' a j.toNatClampNeg (.int (nar .byte x)) ∧ OAL Z h' a .byte (vs.set j.toNatClampNeg (nar .byte x)) ∧ ∀ t, Steps p.tables e below (T'.setTop (mkF m (pc + 1) Ls rest)) t → Steps p.tables e below (T.setTop (mkF m pc Ls (.int x :: .int j :: .ref a :: rest))) t := by
  obtain ⟨cl, A', r⟩ := A
  obtain ⟨T', h', X', e', W', st⟩ := Jvm.RoadKit.stB X hx hZ eT A' (j := j) (x := x) (own_into r q1 q2) (g := mkF m pc Ls (.int x :: .int j :: .ref a :: rest)) rfl rfl hd
  exact ⟨T', h', X', e', W', OAL.same ⟨cl, A', r⟩ W', st⟩
theorem OAL.stZ (X : Stand p l e R s m args below meth c T locs cells slots) (hx : p.tables.exec = Jvm.exec) (hZ : Z.Warmed39 s.vm) (eT : T.heap = h) (A : OAL Z h a .boolean vs) {j x : Int32} (q1 : ¬ j < 0) (q2 : j.toNatClampNeg < vs.length) {pc : Nat} {Ls : Array Slot} {rest : List Value} (hd : decode c.code pc = .ok (.bastore, 1)) :
    ∃ T' h', Stand p l e R s m args below meth c T' (locs ++ [⟨a, j.toNatClampNeg⟩]) cells slots ∧ T'.heap = h' ∧ Wr h h' a j.toNatClampNeg (.int (nar .boolean x)) ∧ OAL Z h' a .boolean (vs.set j.toNatClampNeg (nar .boolean x)) ∧ ∀ t, Steps p.tables e below (T'.setTop (mkF m (pc + 1) Ls rest)) t → Steps p.tables e below (T.setTop (mkF m pc Ls (.int x :: .int j :: .ref a :: rest))) t := by
  obtain ⟨cl, A', r⟩ := A
  obtain ⟨T', h', X', e', W', st⟩ := Jvm.RoadKit.stZ X hx hZ eT A' (j := j) (x := x) (own_into r q1 q2) (g := mkF m pc Ls (.int x :: .int j :: .ref a :: rest)) rfl rfl hd
  exact ⟨T', h', X', e', W', OAL.same ⟨cl, A', r⟩ W', st⟩
theorem OAL.stI (X : Stand p l e R s m args below meth c T locs cells slots) (hx : p.tables.exec = Jvm.exec) (hZ : Z.Warmed39 s.vm) (eT : T.heap = h) (A : OAL Z h a .int vs) {j x : Int32} (q1 : ¬ j < 0) (q2 : j.toNatClampNeg < vs.length) {pc : Nat} {Ls : Array Slot} {rest : List Value} (hd : decode c.code pc = .ok (.iastore, 1)) :
    ∃ T' h', Stand p l e R s m args below meth c T' (locs ++ [⟨a, j.toNatClampNeg⟩]) cells slots ∧ T'.heap = h' ∧ Wr h h' a j.toNatClampNeg (.int x) ∧ OAL Z h' a .int (vs.set j.toNatClampNeg x) ∧ ∀ t, Steps p.tables e below (T'.setTop (mkF m (pc + 1) Ls rest)) t → Steps p.tables e below (T.setTop (mkF m pc Ls (.int x :: .int j :: .ref a :: rest))) t := by
  obtain ⟨cl, A', r⟩ := A
  obtain ⟨T', h', X', e', W', st⟩ := Jvm.RoadKit.stI X hx hZ eT A' (j := j) (x := x) (own_into r q1 q2) (g := mkF m pc Ls (.int x :: .int j :: .ref a :: rest)) rfl rfl hd
  exact ⟨T', h', X', e', W', OAL.same ⟨cl, A', r⟩ W', st⟩
theorem OAJ.stJ (X : Stand p l e R s m args below meth c T locs cells slots) (hx : p.tables.exec = Jvm.exec) (hZ : Z.Warmed39 s.vm) (eT : T.heap = h) (A : OAJ Z h a us) {j : Int32} {x : Int64} (q1 : ¬ j < 0) (q2 : j.toNatClampNeg < us.length) {pc : Nat} {Ls : Array Slot} {rest : List Value} (hd : decode c.code pc = .ok (.lastore, 1)) :
    ∃ T' h', Stand p l e R s m args below meth c T' (locs ++ [⟨a, j.toNatClampNeg⟩]) cells slots ∧ T'.heap = h' ∧ Wr h h' a j.toNatClampNeg (.long x) ∧ OAJ Z h' a (us.set j.toNatClampNeg x) ∧ ∀ t, Steps p.tables e below (T'.setTop (mkF m (pc + 1) Ls rest)) t → Steps p.tables e below (T.setTop (mkF m pc Ls (.long x :: .int j :: .ref a :: rest))) t := by
  obtain ⟨cl, A', r⟩ := A
  obtain ⟨T', h', X', e', W', st⟩ := Jvm.RoadKit.stJ X hx hZ eT A' (j := j) (x := x) (own_into r q1 q2) (g := mkF m pc Ls (.long x :: .int j :: .ref a :: rest)) rfl rfl hd
  exact ⟨T', h', X', e', W', OAJ.same ⟨cl, A', r⟩ W', st⟩
end Own
end Jvm.RoadKit
namespace Jvm.Pilot.@@N@@
open Jvm Jvm.ClassFile Sem Op Lib Jvm.Free Jvm.Stand Jvm.LawKit Jvm.RoadKit Bundle Jvm.Pilot.@@N@@.Jvm.D
/-! numbers without sign -/
def n32 (y : Int32) : Nat := y.toBitVec.toNat
def n64 (x : Int64) : Nat := x.toBitVec.toNat
theorem n32_lt (y : Int32) : n32 y < 2 ^ 32 := y.toBitVec.isLt
theorem n64_lt (x : Int64) : n64 x < 2 ^ 64 := x.toBitVec.isLt
theorem n64_inj {x y : Int64} (h : n64 x = n64 y) : x = y := Int64.toBitVec_inj.mp (BitVec.eq_of_toNat_eq h)
theorem n32_inj {x y : Int32} (h : n32 x = n32 y) : x = y := Int32.toBitVec_inj.mp (BitVec.eq_of_toNat_eq h)
theorem own_b8 (z : Int8) : n64 (z.toInt32.toInt8.toInt32.toInt64 &&& 255) = z.toBitVec.toNat := by
  have k : ∀ n : Fin 256, n64 ((Int8.ofBitVec (BitVec.ofFin n)).toInt32.toInt8.toInt32.toInt64 &&& 255) = n.val := by decide +kernel
  exact k z.toBitVec.toFin
theorem n8_of32 (y : Int32) : y.toInt8.toBitVec.toNat = n32 y % 256 := by
  show (y.toBitVec.signExtend 8).toNat = y.toBitVec.toNat % 256
  rw [BitVec.signExtend_eq_setWidth_of_le _ (by decide), BitVec.toNat_setWidth]
theorem own_byte (y : Int32) : n64 (y.toInt8.toInt32.toInt8.toInt32.toInt64 &&& 255) = n32 y % 256 := by rw [own_b8, n8_of32]
theorem n32_of64 (x : Int64) : n32 x.toInt32 = n64 x % 2 ^ 32 := by
  show (x.toBitVec.signExtend 32).toNat = x.toBitVec.toNat % 2 ^ 32
  rw [BitVec.signExtend_eq_setWidth_of_le _ (by decide), BitVec.toNat_setWidth]
theorem n32_shr (x : Int32) {n : UInt32} {k : Nat} (hn : n.toNat = k) (hk : k < 32) : n32 (x.toUInt32 >>> n).toInt32 = n32 x / 2 ^ k := by
  show (x.toUInt32 >>> n).toNat = x.toUInt32.toNat / 2 ^ k
  rw [UInt32.toNat_shiftRight, hn, Nat.mod_eq_of_lt hk, Nat.shiftRight_eq_div_pow]
theorem n64_shr (x : Int64) {n : UInt64} {k : Nat} (hn : n.toNat = k) (hk : k < 64) : n64 (x.toUInt64 >>> n).toInt64 = n64 x / 2 ^ k := by
  show (x.toUInt64 >>> n).toNat = x.toUInt64.toNat / 2 ^ k
  rw [UInt64.toNat_shiftRight, hn, Nat.mod_eq_of_lt hk, Nat.shiftRight_eq_div_pow]
theorem n64_shl (x n : Int64) {k : Nat} (hn : (n.toBitVec.smod 64).toNat = k) (h : n64 x * 2 ^ k < 2 ^ 64) : n64 (x <<< n) = n64 x * 2 ^ k := by
  show (x.toBitVec <<< (n.toBitVec.smod 64)).toNat = x.toBitVec.toNat * 2 ^ k
  rw [BitVec.shiftLeft_eq', hn, BitVec.toNat_shiftLeft, Nat.shiftLeft_eq]
  exact Nat.mod_eq_of_lt h
theorem n64_or {x y : Int64} {k q : Nat} (hx : n64 x < 2 ^ k) (hy : n64 y = q * 2 ^ k) : n64 (x ||| y) = n64 x + n64 y := by
  show (x.toBitVec ||| y.toBitVec).toNat = _
  rw [BitVec.toNat_or]
  have e : y.toBitVec.toNat = q <<< k := by rw [Nat.shiftLeft_eq]; exact hy
  have f := Nat.shiftLeft_add_eq_or_of_lt hx q
  rw [Nat.or_comm, e]
  show q <<< k ||| n64 x = n64 x + n64 y
  rw [← f, hy, Nat.shiftLeft_eq, Nat.add_comm]
theorem n64_or' {x y : Int64} {k q : Nat} (hx : n64 x < 2 ^ k) (hy : n64 y = q * 2 ^ k) : n64 (y ||| x) = n64 y + n64 x := by
  have e : y ||| x = x ||| y := Int64.or_comm y x
  rw [e, n64_or hx hy, Nat.add_comm]

theorem own_x {m : Nat} {P : Int32 → Prop} {o : Int32} (h : ∃ n : Fin m, o = Int32.ofNat n.val) (k : ∀ n : Fin m, P (Int32.ofNat n.val)) : P o := by obtain ⟨n, rfl⟩ := h; exact k n
theorem own_mod (a k : Int32) {m : Nat} (hk : k.toInt = m) (h0 : 0 < m) (h1 : m < 2 ^ 31) : ∃ n : Fin m, (a &&& 2147483647) % k = Int32.ofNat n.val := by
  have e : 0 ≤ (a &&& 2147483647).toInt := by
    rw [Jvm.Kit.i32_mask a 2147483647 (k := 31) (by decide) (by decide)]; exact Int.emod_nonneg _ (by decide)
  have e2 := Jvm.Kit.i32_rem_nonneg (x := a &&& 2147483647) (y := k) e
  rw [hk] at e2
  have m1 := Int.emod_nonneg (a &&& 2147483647).toInt (b := (m : Int)) (by omega)
  have m2 := Int.emod_lt_of_pos (a &&& 2147483647).toInt (b := (m : Int)) (by omega)
  refine ⟨⟨((a &&& 2147483647).toInt % m).toNat, by omega⟩, ?_⟩
  rw [← Int32.toInt_inj, e2, Int32.toInt_ofNat_of_lt (by show ((a &&& 2147483647).toInt % m).toNat < _; omega)]
  show _ = ((((a &&& 2147483647).toInt % m).toNat : Nat) : Int)
  omega
theorem own_fin (b k : Int32) {m : Nat} (hm : m < 32) (hk : k.toBitVec.toNat = 2 ^ m - 1) : ∃ n : Nat, n < 2 ^ m ∧ b &&& k = Int32.ofNat n := by
  have e := Jvm.Kit.i32_mask b k hm hk
  have p : (0 : Int) < 2 ^ m := Int.pow_pos (by decide)
  have h1 := Int.emod_nonneg b.toInt (b := 2 ^ m) (by omega)
  have h2 := Int.emod_lt_of_pos b.toInt p
  have h3 : (2 : Nat) ^ m ≤ 2 ^ 31 := Nat.pow_le_pow_right (by decide) (by omega)
  have h4 : ((2 ^ m : Nat) : Int) = (2 : Int) ^ m := by simp
  refine ⟨(b.toInt % 2 ^ m).toNat, by omega, ?_⟩
  rw [← Int32.toInt_inj, e, Int32.toInt_ofNat_of_lt (by omega)]; omega
theorem own_and3 (b : Int32) : ∃ n : Fin 4, b &&& 3 = Int32.ofNat n.val := by
  obtain ⟨n, hn, q⟩ := own_fin b 3 (m := 2) (by decide) (by decide)
  exact ⟨⟨n, hn⟩, q⟩
theorem n32_toInt {x : Int32} (h : n32 x < 2 ^ 31) : x.toInt = (n32 x : Int) := by
  have e : x.toInt = x.toBitVec.toInt := rfl
  rw [e, BitVec.toInt_eq_toNat_cond]
  unfold n32 at *
  split <;> omega
theorem n32_of {x : Int32} {n : Nat} (h : x.toInt = (n : Int)) : n32 x = n := by
  have e : x.toInt = x.toBitVec.toInt := rfl
  have l := n32_lt x
  rw [e, BitVec.toInt_eq_toNat_cond] at h
  unfold n32 at *
  split at h <;> omega
theorem n32_ofNat {n : Nat} (h : n < 2 ^ 31) : n32 (Int32.ofNat n) = n := n32_of (Int32.toInt_ofNat_of_lt h)
theorem n32_eq {x : Int32} {n : Nat} (h : n < 2 ^ 31) (e : n32 x = n) : x = Int32.ofNat n := n32_inj (by rw [e, n32_ofNat h])
theorem n32_or {x y : Int32} {k q : Nat} (hx : n32 x = q * 2 ^ k) (hy : n32 y < 2 ^ k) : n32 (x ||| y) = n32 x + n32 y := by
  show (x.toBitVec ||| y.toBitVec).toNat = _
  rw [BitVec.toNat_or]
  have f := Nat.shiftLeft_add_eq_or_of_lt hy q
  have e : x.toBitVec.toNat = q <<< k := by rw [Nat.shiftLeft_eq]; exact hx
  rw [e]
  show q <<< k ||| n32 y = n32 x + n32 y
  rw [← f, hx, Nat.shiftLeft_eq]
theorem own_bt {y : Int32} (h : n32 y < 256) : n32 ((nar .byte (y.toInt8.toInt32)) &&& 255) = n32 y := by
  have k : ∀ n : Fin 256, n32 ((nar .byte ((Int32.ofNat n.val).toInt8.toInt32)) &&& 255) = n.val := by decide +kernel
  rw [n32_eq (x := y) (n := n32 y) (by omega) rfl, k ⟨n32 y, h⟩, n32_ofNat (by omega)]
theorem n32_sar {x s : Int32} {k : Nat} (h : n32 x < 2 ^ 31) (hs : (s.toBitVec.smod 32).toNat = k) : n32 (x >>> s) = n32 x / 2 ^ k := by
  apply n32_of
  rw [Jvm.Kit.i32_shr x s hs, n32_toInt h]
  simp
theorem n32_mask {x m : Int32} {k : Nat} (h : n32 x < 2 ^ 31) (hk : k < 32) (hm : m.toBitVec.toNat = 2 ^ k - 1) : n32 (x &&& m) = n32 x % 2 ^ k := by
  apply n32_of
  rw [Jvm.Kit.i32_mask x m hk hm, n32_toInt h]
  simp
theorem n32_shl {x s : Int32} {k : Nat} (hs : (s.toBitVec.smod 32).toNat = k) (h : n32 x * 2 ^ k < 2 ^ 32) : n32 (x <<< s) = n32 x * 2 ^ k := by
  show (x.toBitVec <<< (s.toBitVec.smod 32)).toNat = x.toBitVec.toNat * 2 ^ k
  rw [BitVec.shiftLeft_eq', hs, BitVec.toNat_shiftLeft, Nat.shiftLeft_eq]
  exact Nat.mod_eq_of_lt h
/-- the lead byte and the others, as they are read back -/
def own_r (y : Int32) : Int32 := (nar .byte (y.toInt8.toInt32)) &&& 255
theorem own_ct (c s : Int32) {k : Nat} (hc : n32 c < 2 ^ 31) (hs : (s.toBitVec.smod 32).toNat = k) : n32 (own_r (128 ||| ((c >>> s) &&& 63))) = 128 + n32 c / 2 ^ k % 64 := by
  have a := n32_sar hc hs
  have q : n32 c / 2 ^ k ≤ n32 c := Nat.div_le_self _ _
  have b := n32_mask (x := c >>> s) (m := 63) (k := 6) (by omega) (by decide) (by decide)
  have d := n32_or (x := 128) (y := (c >>> s) &&& 63) (k := 6) (q := 2) (by decide) (by omega)
  have e : n32 128 = 128 := by decide
  rw [e, b, a] at d
  unfold own_r
  rw [own_bt (by omega), d]
theorem own_ct0 (c : Int32) (hc : n32 c < 2 ^ 31) : n32 (own_r (128 ||| (c &&& 63))) = 128 + n32 c % 64 := by
  have b := n32_mask (x := c) (m := 63) (k := 6) hc (by decide) (by decide)
  have d := n32_or (x := 128) (y := c &&& 63) (k := 6) (q := 2) (by decide) (by omega)
  have e : n32 128 = 128 := by decide
  rw [e, b] at d
  unfold own_r
  rw [own_bt (by omega), d]
theorem own_ld (c s m : Int32) {k M j q : Nat} (hc : n32 c < 2 ^ 31) (hs : (s.toBitVec.smod 32).toNat = k) (hm : n32 m = M) (hq : M = q * 2 ^ j) (hM : M + 2 ^ j ≤ 256) (h : n32 c / 2 ^ k < 2 ^ j) : n32 (own_r (m ||| (c >>> s))) = M + n32 c / 2 ^ k := by
  have a := n32_sar hc hs
  have d := n32_or (x := m) (y := c >>> s) (k := j) (q := q) (by rw [hm, hq]) (by omega)
  rw [hm, a] at d
  unfold own_r
  rw [own_bt (by omega), d]
def own_cont (x : Int32) : Int32 := if x &&& 192 = 128 then 1 else 0
theorem own_cont1 {x : Int32} {m : Nat} (h : n32 x = 128 + m) (hm : m < 64) : ¬ own_cont x = 0 := by
  have k : ∀ l : Fin 64, ¬ own_cont (Int32.ofNat (128 + l.val)) = 0 := by decide +kernel
  rw [n32_eq (by omega) h]; exact k ⟨m, hm⟩
theorem own_low {x : Int32} {m : Nat} (h : n32 x = 128 + m) (hm : m < 64) : n32 (x &&& 63) = m := by
  rw [n32_mask (k := 6) (by omega) (by decide) (by decide), h]; omega
theorem own_hd2 {x : Int32} {m : Nat} (h : n32 x = 192 + m) (hm : m < 32) : x &&& 224 = 192 ∧ n32 (x &&& 31) = m := by
  have k : ∀ l : Fin 32, Int32.ofNat (192 + l.val) &&& 224 = 192 := by decide +kernel
  refine ⟨by rw [n32_eq (by omega) h]; exact k ⟨m, hm⟩, ?_⟩
  rw [n32_mask (k := 5) (by omega) (by decide) (by decide), h]; omega
theorem own_hd3 {x : Int32} {m : Nat} (h : n32 x = 224 + m) (hm : m < 16) : x &&& 240 = 224 ∧ n32 (x &&& 15) = m := by
  have k : ∀ l : Fin 16, Int32.ofNat (224 + l.val) &&& 240 = 224 := by decide +kernel
  refine ⟨by rw [n32_eq (by omega) h]; exact k ⟨m, hm⟩, ?_⟩
  rw [n32_mask (k := 4) (by omega) (by decide) (by decide), h]; omega
theorem own_hd4 {x : Int32} {m : Nat} (h : n32 x = 240 + m) (hm : m < 8) : x &&& 248 = 240 ∧ n32 (x &&& 7) = m := by
  have k : ∀ l : Fin 8, Int32.ofNat (240 + l.val) &&& 248 = 240 := by decide +kernel
  refine ⟨by rw [n32_eq (by omega) h]; exact k ⟨m, hm⟩, ?_⟩
  rw [n32_mask (k := 3) (by omega) (by decide) (by decide), h]; omega
theorem own_a2 {x y c : Int32} (hx : n32 x = n32 c / 64) (hy : n32 y = n32 c % 64) (h : n32 c < 2048) : (x <<< ((6 : Int32) &&& 31)) ||| y = c := by
  apply n32_inj
  have s := n32_shl (x := x) (s := (6 : Int32) &&& 31) (k := 6) (by decide) (by omega)
  rw [n32_or s (by omega), s]; omega
theorem own_a3 {x y z c : Int32} (hx : n32 x = n32 c / 4096) (hy : n32 y = n32 c / 64 % 64) (hz : n32 z = n32 c % 64) (h : n32 c < 65536) : ((x <<< ((12 : Int32) &&& 31)) ||| (y <<< ((6 : Int32) &&& 31))) ||| z = c := by
  apply n32_inj
  have s := n32_shl (x := x) (s := (12 : Int32) &&& 31) (k := 12) (by decide) (by omega)
  have t := n32_shl (x := y) (s := (6 : Int32) &&& 31) (k := 6) (by decide) (by omega)
  have o := n32_or (y := y <<< ((6 : Int32) &&& 31)) s (by omega)
  rw [n32_or (q := n32 x * 64 + n32 y) (k := 6) (by rw [o, s, t]; omega) (by omega), o, s, t]; omega
theorem own_a4 {x y z w c : Int32} (hx : n32 x = n32 c / 262144) (hy : n32 y = n32 c / 4096 % 64) (hz : n32 z = n32 c / 64 % 64) (hw : n32 w = n32 c % 64) (h : n32 c < 2097152) : (((x <<< ((18 : Int32) &&& 31)) ||| (y <<< ((12 : Int32) &&& 31))) ||| (z <<< ((6 : Int32) &&& 31))) ||| w = c := by
  apply n32_inj
  have s := n32_shl (x := x) (s := (18 : Int32) &&& 31) (k := 18) (by decide) (by omega)
  have t := n32_shl (x := y) (s := (12 : Int32) &&& 31) (k := 12) (by decide) (by omega)
  have u := n32_shl (x := z) (s := (6 : Int32) &&& 31) (k := 6) (by decide) (by omega)
  have o := n32_or (y := y <<< ((12 : Int32) &&& 31)) s (by omega)
  have o2 := n32_or (x := (x <<< ((18 : Int32) &&& 31)) ||| (y <<< ((12 : Int32) &&& 31))) (y := z <<< ((6 : Int32) &&& 31)) (q := n32 x * 64 + n32 y) (k := 12) (by rw [o, s, t]; omega) (by omega)
  rw [n32_or (q := (n32 x * 64 + n32 y) * 64 + n32 z) (k := 6) (by rw [o2, o, s, t, u]; omega) (by omega), o2, o, s, t, u]; omega
/-- what the code is -/
theorem own_code (a : Int32) : 128 ≤ n32 (128 + (a &&& 2147483647) % 1113984) ∧ n32 (128 + (a &&& 2147483647) % 1113984) < 1114112 := by
  have e : 0 ≤ (a &&& 2147483647).toInt := by
    rw [Jvm.Kit.i32_mask a 2147483647 (k := 31) (by decide) (by decide)]; exact Int.emod_nonneg _ (by decide)
  have k : (1113984 : Int32).toInt = 1113984 := by decide
  have k2 : (128 : Int32).toInt = 128 := by decide
  have e2 := Jvm.Kit.i32_rem_nonneg (x := a &&& 2147483647) (y := 1113984) e
  rw [k] at e2
  have e3 : (128 + (a &&& 2147483647) % 1113984).toInt = 128 + (a &&& 2147483647).toInt % 1113984 := by
    rw [Jvm.Kit.i32_add (by omega) (by omega), k2, e2]
  have e4 := n32_of (x := 128 + (a &&& 2147483647) % 1113984) (n := (128 + (a &&& 2147483647).toInt % 1113984).toNat) (by rw [e3]; omega)
  omega
theorem own_ltN {x : Int32} (h : n32 x < 2 ^ 31) {n : Nat} (hn : n < 2 ^ 31) : x < Int32.ofNat n ↔ n32 x < n := by
  rw [Int32.lt_iff_toInt_lt, n32_toInt h, Int32.toInt_ofNat_of_lt hn]; omega

def own_wr (vs : List Int32) (o c : Int32) : List Int32 := if c < 2048 then ((vs.set o.toNatClampNeg (nar .byte (((192 : Int32) ||| (c >>> ((6 : Int32) &&& 31))).toInt8.toInt32))).set (o + (1 : Int32)).toNatClampNeg (nar .byte (((128 : Int32) ||| (c &&& (63 : Int32))).toInt8.toInt32))) else if c < 65536 then (((vs.set o.toNatClampNeg (nar .byte (((224 : Int32) ||| (c >>> ((12 : Int32) &&& 31))).toInt8.toInt32))).set (o + (1 : Int32)).toNatClampNeg (nar .byte (((128 : Int32) ||| ((c >>> ((6 : Int32) &&& 31)) &&& (63 : Int32))).toInt8.toInt32))).set ((o + (1 : Int32)) + (1 : Int32)).toNatClampNeg (nar .byte (((128 : Int32) ||| (c &&& (63 : Int32))).toInt8.toInt32))) else ((((vs.set o.toNatClampNeg (nar .byte (((240 : Int32) ||| (c >>> ((18 : Int32) &&& 31))).toInt8.toInt32))).set (o + (1 : Int32)).toNatClampNeg (nar .byte (((128 : Int32) ||| ((c >>> ((12 : Int32) &&& 31)) &&& (63 : Int32))).toInt8.toInt32))).set ((o + (1 : Int32)) + (1 : Int32)).toNatClampNeg (nar .byte (((128 : Int32) ||| ((c >>> ((6 : Int32) &&& 31)) &&& (63 : Int32))).toInt8.toInt32))).set (((o + (1 : Int32)) + (1 : Int32)) + (1 : Int32)).toNatClampNeg (nar .byte (((128 : Int32) ||| (c &&& (63 : Int32))).toInt8.toInt32)))
def own_end (o c : Int32) : Int32 := if c < 2048 then ((o + (1 : Int32)) + (1 : Int32)) else if c < 65536 then (((o + (1 : Int32)) + (1 : Int32)) + (1 : Int32)) else ((((o + (1 : Int32)) + (1 : Int32)) + (1 : Int32)) + (1 : Int32))
theorem own_wr2 {vs : List Int32} {o c : Int32} (h : c < 2048) : own_wr vs o c = ((vs.set o.toNatClampNeg (nar .byte (((192 : Int32) ||| (c >>> ((6 : Int32) &&& 31))).toInt8.toInt32))).set (o + (1 : Int32)).toNatClampNeg (nar .byte (((128 : Int32) ||| (c &&& (63 : Int32))).toInt8.toInt32))) := if_pos h
theorem own_wr3 {vs : List Int32} {o c : Int32} (h : ¬ c < 2048) (h' : c < 65536) : own_wr vs o c = (((vs.set o.toNatClampNeg (nar .byte (((224 : Int32) ||| (c >>> ((12 : Int32) &&& 31))).toInt8.toInt32))).set (o + (1 : Int32)).toNatClampNeg (nar .byte (((128 : Int32) ||| ((c >>> ((6 : Int32) &&& 31)) &&& (63 : Int32))).toInt8.toInt32))).set ((o + (1 : Int32)) + (1 : Int32)).toNatClampNeg (nar .byte (((128 : Int32) ||| (c &&& (63 : Int32))).toInt8.toInt32))) := (if_neg h).trans (if_pos h')
theorem own_wr4 {vs : List Int32} {o c : Int32} (h : ¬ c < 2048) (h' : ¬ c < 65536) : own_wr vs o c = ((((vs.set o.toNatClampNeg (nar .byte (((240 : Int32) ||| (c >>> ((18 : Int32) &&& 31))).toInt8.toInt32))).set (o + (1 : Int32)).toNatClampNeg (nar .byte (((128 : Int32) ||| ((c >>> ((12 : Int32) &&& 31)) &&& (63 : Int32))).toInt8.toInt32))).set ((o + (1 : Int32)) + (1 : Int32)).toNatClampNeg (nar .byte (((128 : Int32) ||| ((c >>> ((6 : Int32) &&& 31)) &&& (63 : Int32))).toInt8.toInt32))).set (((o + (1 : Int32)) + (1 : Int32)) + (1 : Int32)).toNatClampNeg (nar .byte (((128 : Int32) ||| (c &&& (63 : Int32))).toInt8.toInt32))) := (if_neg h).trans (if_neg h')
theorem own_end2 {o c : Int32} (h : c < 2048) : own_end o c = ((o + (1 : Int32)) + (1 : Int32)) := if_pos h
theorem own_end3 {o c : Int32} (h : ¬ c < 2048) (h' : c < 65536) : own_end o c = (((o + (1 : Int32)) + (1 : Int32)) + (1 : Int32)) := (if_neg h).trans (if_pos h')
theorem own_end4 {o c : Int32} (h : ¬ c < 2048) (h' : ¬ c < 65536) : own_end o c = ((((o + (1 : Int32)) + (1 : Int32)) + (1 : Int32)) + (1 : Int32)) := (if_neg h).trans (if_neg h')
def own_kept (w j fr en f : Int32) : Int32 := if (¬ j < fr ∧ j < en) ∨ w = f then 1 else 0
theorem own_kept1 {w j fr en f : Int32} (h : (¬ j < fr ∧ j < en) ∨ w = f) : nar .boolean 1 = own_kept w j fr en f := Eq.symm (if_pos h)
theorem own_kept0 {w j fr en f : Int32} (h : j < fr ∨ ¬ j < en) (h' : ¬ w = f) : nar .boolean 0 = own_kept w j fr en f := Eq.symm (if_neg fun q => q.elim (fun z => h.elim z.1 fun y => y z.2) h')
theorem own_n0 {x : Int32} (h : x = 1) : ¬ x = 0 := by subst h; decide
theorem own_nf (s : Int32) : nar .byte (s.toInt8.toInt32) = s.toInt8.toInt32 := by
  show (s.toInt8.toInt32).toInt8.toInt32 = _
  rw [Int8.toInt8_toInt32]
theorem own_kp2 {o : Int32} (ho : ∃ n : Fin 4, o = Int32.ofNat n.val) (f y0 y1 : Int32) (j : Nat) (hj : j < 8) : ∃ w, OAt (([f, f, f, f, f, f, f, f].set o.toNatClampNeg y0).set (o + (1 : Int32)).toNatClampNeg y1) (Int32.ofNat j) w ∧ own_kept w (Int32.ofNat j) o ((o + (1 : Int32)) + (1 : Int32)) f = 1 := by
  obtain ⟨⟨n, hn⟩, rfl⟩ := ho
  dsimp only
  match n, hn, j, hj with
  | 0, _, 0, _ => exact ⟨_, ⟨by decide, rfl⟩, if_pos (Or.inl ⟨by decide, by decide⟩)⟩
  | 0, _, 1, _ => exact ⟨_, ⟨by decide, rfl⟩, if_pos (Or.inl ⟨by decide, by decide⟩)⟩
  | 0, _, 2, _ => exact ⟨_, ⟨by decide, rfl⟩, if_pos (Or.inr rfl)⟩
  | 0, _, 3, _ => exact ⟨_, ⟨by decide, rfl⟩, if_pos (Or.inr rfl)⟩
  | 0, _, 4, _ => exact ⟨_, ⟨by decide, rfl⟩, if_pos (Or.inr rfl)⟩
  | 0, _, 5, _ => exact ⟨_, ⟨by decide, rfl⟩, if_pos (Or.inr rfl)⟩
  | 0, _, 6, _ => exact ⟨_, ⟨by decide, rfl⟩, if_pos (Or.inr rfl)⟩
  | 0, _, 7, _ => exact ⟨_, ⟨by decide, rfl⟩, if_pos (Or.inr rfl)⟩
  | 1, _, 0, _ => exact ⟨_, ⟨by decide, rfl⟩, if_pos (Or.inr rfl)⟩
  | 1, _, 1, _ => exact ⟨_, ⟨by decide, rfl⟩, if_pos (Or.inl ⟨by decide, by decide⟩)⟩
  | 1, _, 2, _ => exact ⟨_, ⟨by decide, rfl⟩, if_pos (Or.inl ⟨by decide, by decide⟩)⟩
  | 1, _, 3, _ => exact ⟨_, ⟨by decide, rfl⟩, if_pos (Or.inr rfl)⟩
  | 1, _, 4, _ => exact ⟨_, ⟨by decide, rfl⟩, if_pos (Or.inr rfl)⟩
  | 1, _, 5, _ => exact ⟨_, ⟨by decide, rfl⟩, if_pos (Or.inr rfl)⟩
  | 1, _, 6, _ => exact ⟨_, ⟨by decide, rfl⟩, if_pos (Or.inr rfl)⟩
  | 1, _, 7, _ => exact ⟨_, ⟨by decide, rfl⟩, if_pos (Or.inr rfl)⟩
  | 2, _, 0, _ => exact ⟨_, ⟨by decide, rfl⟩, if_pos (Or.inr rfl)⟩
  | 2, _, 1, _ => exact ⟨_, ⟨by decide, rfl⟩, if_pos (Or.inr rfl)⟩
  | 2, _, 2, _ => exact ⟨_, ⟨by decide, rfl⟩, if_pos (Or.inl ⟨by decide, by decide⟩)⟩
  | 2, _, 3, _ => exact ⟨_, ⟨by decide, rfl⟩, if_pos (Or.inl ⟨by decide, by decide⟩)⟩
  | 2, _, 4, _ => exact ⟨_, ⟨by decide, rfl⟩, if_pos (Or.inr rfl)⟩
  | 2, _, 5, _ => exact ⟨_, ⟨by decide, rfl⟩, if_pos (Or.inr rfl)⟩
  | 2, _, 6, _ => exact ⟨_, ⟨by decide, rfl⟩, if_pos (Or.inr rfl)⟩
  | 2, _, 7, _ => exact ⟨_, ⟨by decide, rfl⟩, if_pos (Or.inr rfl)⟩
  | 3, _, 0, _ => exact ⟨_, ⟨by decide, rfl⟩, if_pos (Or.inr rfl)⟩
  | 3, _, 1, _ => exact ⟨_, ⟨by decide, rfl⟩, if_pos (Or.inr rfl)⟩
  | 3, _, 2, _ => exact ⟨_, ⟨by decide, rfl⟩, if_pos (Or.inr rfl)⟩
  | 3, _, 3, _ => exact ⟨_, ⟨by decide, rfl⟩, if_pos (Or.inl ⟨by decide, by decide⟩)⟩
  | 3, _, 4, _ => exact ⟨_, ⟨by decide, rfl⟩, if_pos (Or.inl ⟨by decide, by decide⟩)⟩
  | 3, _, 5, _ => exact ⟨_, ⟨by decide, rfl⟩, if_pos (Or.inr rfl)⟩
  | 3, _, 6, _ => exact ⟨_, ⟨by decide, rfl⟩, if_pos (Or.inr rfl)⟩
  | 3, _, 7, _ => exact ⟨_, ⟨by decide, rfl⟩, if_pos (Or.inr rfl)⟩
theorem own_rd2 {o : Int32} (ho : ∃ n : Fin 4, o = Int32.ofNat n.val) (f y0 y1 : Int32) : OAt (([f, f, f, f, f, f, f, f].set o.toNatClampNeg y0).set (o + (1 : Int32)).toNatClampNeg y1) o y0 ∧ OAt (([f, f, f, f, f, f, f, f].set o.toNatClampNeg y0).set (o + (1 : Int32)).toNatClampNeg y1) (o + (1 : Int32)) y1 ∧ OAt (([f, f, f, f, f, f, f, f].set o.toNatClampNeg y0).set (o + (1 : Int32)).toNatClampNeg y1) (o + (2 : Int32)) f ∧ OAt (([f, f, f, f, f, f, f, f].set o.toNatClampNeg y0).set (o + (1 : Int32)).toNatClampNeg y1) (o + (3 : Int32)) f := by
  obtain ⟨⟨n, hn⟩, rfl⟩ := ho
  dsimp only
  match n, hn with
  | 0, _ => exact ⟨⟨by decide, rfl⟩, ⟨by decide, rfl⟩, ⟨by decide, rfl⟩, ⟨by decide, rfl⟩⟩
  | 1, _ => exact ⟨⟨by decide, rfl⟩, ⟨by decide, rfl⟩, ⟨by decide, rfl⟩, ⟨by decide, rfl⟩⟩
  | 2, _ => exact ⟨⟨by decide, rfl⟩, ⟨by decide, rfl⟩, ⟨by decide, rfl⟩, ⟨by decide, rfl⟩⟩
  | 3, _ => exact ⟨⟨by decide, rfl⟩, ⟨by decide, rfl⟩, ⟨by decide, rfl⟩, ⟨by decide, rfl⟩⟩
theorem own_kp3 {o : Int32} (ho : ∃ n : Fin 4, o = Int32.ofNat n.val) (f y0 y1 y2 : Int32) (j : Nat) (hj : j < 8) : ∃ w, OAt ((([f, f, f, f, f, f, f, f].set o.toNatClampNeg y0).set (o + (1 : Int32)).toNatClampNeg y1).set ((o + (1 : Int32)) + (1 : Int32)).toNatClampNeg y2) (Int32.ofNat j) w ∧ own_kept w (Int32.ofNat j) o (((o + (1 : Int32)) + (1 : Int32)) + (1 : Int32)) f = 1 := by
  obtain ⟨⟨n, hn⟩, rfl⟩ := ho
  dsimp only
  match n, hn, j, hj with
  | 0, _, 0, _ => exact ⟨_, ⟨by decide, rfl⟩, if_pos (Or.inl ⟨by decide, by decide⟩)⟩
  | 0, _, 1, _ => exact ⟨_, ⟨by decide, rfl⟩, if_pos (Or.inl ⟨by decide, by decide⟩)⟩
  | 0, _, 2, _ => exact ⟨_, ⟨by decide, rfl⟩, if_pos (Or.inl ⟨by decide, by decide⟩)⟩
  | 0, _, 3, _ => exact ⟨_, ⟨by decide, rfl⟩, if_pos (Or.inr rfl)⟩
  | 0, _, 4, _ => exact ⟨_, ⟨by decide, rfl⟩, if_pos (Or.inr rfl)⟩
  | 0, _, 5, _ => exact ⟨_, ⟨by decide, rfl⟩, if_pos (Or.inr rfl)⟩
  | 0, _, 6, _ => exact ⟨_, ⟨by decide, rfl⟩, if_pos (Or.inr rfl)⟩
  | 0, _, 7, _ => exact ⟨_, ⟨by decide, rfl⟩, if_pos (Or.inr rfl)⟩
  | 1, _, 0, _ => exact ⟨_, ⟨by decide, rfl⟩, if_pos (Or.inr rfl)⟩
  | 1, _, 1, _ => exact ⟨_, ⟨by decide, rfl⟩, if_pos (Or.inl ⟨by decide, by decide⟩)⟩
  | 1, _, 2, _ => exact ⟨_, ⟨by decide, rfl⟩, if_pos (Or.inl ⟨by decide, by decide⟩)⟩
  | 1, _, 3, _ => exact ⟨_, ⟨by decide, rfl⟩, if_pos (Or.inl ⟨by decide, by decide⟩)⟩
  | 1, _, 4, _ => exact ⟨_, ⟨by decide, rfl⟩, if_pos (Or.inr rfl)⟩
  | 1, _, 5, _ => exact ⟨_, ⟨by decide, rfl⟩, if_pos (Or.inr rfl)⟩
  | 1, _, 6, _ => exact ⟨_, ⟨by decide, rfl⟩, if_pos (Or.inr rfl)⟩
  | 1, _, 7, _ => exact ⟨_, ⟨by decide, rfl⟩, if_pos (Or.inr rfl)⟩
  | 2, _, 0, _ => exact ⟨_, ⟨by decide, rfl⟩, if_pos (Or.inr rfl)⟩
  | 2, _, 1, _ => exact ⟨_, ⟨by decide, rfl⟩, if_pos (Or.inr rfl)⟩
  | 2, _, 2, _ => exact ⟨_, ⟨by decide, rfl⟩, if_pos (Or.inl ⟨by decide, by decide⟩)⟩
  | 2, _, 3, _ => exact ⟨_, ⟨by decide, rfl⟩, if_pos (Or.inl ⟨by decide, by decide⟩)⟩
  | 2, _, 4, _ => exact ⟨_, ⟨by decide, rfl⟩, if_pos (Or.inl ⟨by decide, by decide⟩)⟩
  | 2, _, 5, _ => exact ⟨_, ⟨by decide, rfl⟩, if_pos (Or.inr rfl)⟩
  | 2, _, 6, _ => exact ⟨_, ⟨by decide, rfl⟩, if_pos (Or.inr rfl)⟩
  | 2, _, 7, _ => exact ⟨_, ⟨by decide, rfl⟩, if_pos (Or.inr rfl)⟩
  | 3, _, 0, _ => exact ⟨_, ⟨by decide, rfl⟩, if_pos (Or.inr rfl)⟩
  | 3, _, 1, _ => exact ⟨_, ⟨by decide, rfl⟩, if_pos (Or.inr rfl)⟩
  | 3, _, 2, _ => exact ⟨_, ⟨by decide, rfl⟩, if_pos (Or.inr rfl)⟩
  | 3, _, 3, _ => exact ⟨_, ⟨by decide, rfl⟩, if_pos (Or.inl ⟨by decide, by decide⟩)⟩
  | 3, _, 4, _ => exact ⟨_, ⟨by decide, rfl⟩, if_pos (Or.inl ⟨by decide, by decide⟩)⟩
  | 3, _, 5, _ => exact ⟨_, ⟨by decide, rfl⟩, if_pos (Or.inl ⟨by decide, by decide⟩)⟩
  | 3, _, 6, _ => exact ⟨_, ⟨by decide, rfl⟩, if_pos (Or.inr rfl)⟩
  | 3, _, 7, _ => exact ⟨_, ⟨by decide, rfl⟩, if_pos (Or.inr rfl)⟩
theorem own_rd3 {o : Int32} (ho : ∃ n : Fin 4, o = Int32.ofNat n.val) (f y0 y1 y2 : Int32) : OAt ((([f, f, f, f, f, f, f, f].set o.toNatClampNeg y0).set (o + (1 : Int32)).toNatClampNeg y1).set ((o + (1 : Int32)) + (1 : Int32)).toNatClampNeg y2) o y0 ∧ OAt ((([f, f, f, f, f, f, f, f].set o.toNatClampNeg y0).set (o + (1 : Int32)).toNatClampNeg y1).set ((o + (1 : Int32)) + (1 : Int32)).toNatClampNeg y2) (o + (1 : Int32)) y1 ∧ OAt ((([f, f, f, f, f, f, f, f].set o.toNatClampNeg y0).set (o + (1 : Int32)).toNatClampNeg y1).set ((o + (1 : Int32)) + (1 : Int32)).toNatClampNeg y2) (o + (2 : Int32)) y2 ∧ OAt ((([f, f, f, f, f, f, f, f].set o.toNatClampNeg y0).set (o + (1 : Int32)).toNatClampNeg y1).set ((o + (1 : Int32)) + (1 : Int32)).toNatClampNeg y2) (o + (3 : Int32)) f := by
  obtain ⟨⟨n, hn⟩, rfl⟩ := ho
  dsimp only
  match n, hn with
  | 0, _ => exact ⟨⟨by decide, rfl⟩, ⟨by decide, rfl⟩, ⟨by decide, rfl⟩, ⟨by decide, rfl⟩⟩
  | 1, _ => exact ⟨⟨by decide, rfl⟩, ⟨by decide, rfl⟩, ⟨by decide, rfl⟩, ⟨by decide, rfl⟩⟩
  | 2, _ => exact ⟨⟨by decide, rfl⟩, ⟨by decide, rfl⟩, ⟨by decide, rfl⟩, ⟨by decide, rfl⟩⟩
  | 3, _ => exact ⟨⟨by decide, rfl⟩, ⟨by decide, rfl⟩, ⟨by decide, rfl⟩, ⟨by decide, rfl⟩⟩
theorem own_kp4 {o : Int32} (ho : ∃ n : Fin 4, o = Int32.ofNat n.val) (f y0 y1 y2 y3 : Int32) (j : Nat) (hj : j < 8) : ∃ w, OAt (((([f, f, f, f, f, f, f, f].set o.toNatClampNeg y0).set (o + (1 : Int32)).toNatClampNeg y1).set ((o + (1 : Int32)) + (1 : Int32)).toNatClampNeg y2).set (((o + (1 : Int32)) + (1 : Int32)) + (1 : Int32)).toNatClampNeg y3) (Int32.ofNat j) w ∧ own_kept w (Int32.ofNat j) o ((((o + (1 : Int32)) + (1 : Int32)) + (1 : Int32)) + (1 : Int32)) f = 1 := by
  obtain ⟨⟨n, hn⟩, rfl⟩ := ho
  dsimp only
  match n, hn, j, hj with
  | 0, _, 0, _ => exact ⟨_, ⟨by decide, rfl⟩, if_pos (Or.inl ⟨by decide, by decide⟩)⟩
  | 0, _, 1, _ => exact ⟨_, ⟨by decide, rfl⟩, if_pos (Or.inl ⟨by decide, by decide⟩)⟩
  | 0, _, 2, _ => exact ⟨_, ⟨by decide, rfl⟩, if_pos (Or.inl ⟨by decide, by decide⟩)⟩
  | 0, _, 3, _ => exact ⟨_, ⟨by decide, rfl⟩, if_pos (Or.inl ⟨by decide, by decide⟩)⟩
  | 0, _, 4, _ => exact ⟨_, ⟨by decide, rfl⟩, if_pos (Or.inr rfl)⟩
  | 0, _, 5, _ => exact ⟨_, ⟨by decide, rfl⟩, if_pos (Or.inr rfl)⟩
  | 0, _, 6, _ => exact ⟨_, ⟨by decide, rfl⟩, if_pos (Or.inr rfl)⟩
  | 0, _, 7, _ => exact ⟨_, ⟨by decide, rfl⟩, if_pos (Or.inr rfl)⟩
  | 1, _, 0, _ => exact ⟨_, ⟨by decide, rfl⟩, if_pos (Or.inr rfl)⟩
  | 1, _, 1, _ => exact ⟨_, ⟨by decide, rfl⟩, if_pos (Or.inl ⟨by decide, by decide⟩)⟩
  | 1, _, 2, _ => exact ⟨_, ⟨by decide, rfl⟩, if_pos (Or.inl ⟨by decide, by decide⟩)⟩
  | 1, _, 3, _ => exact ⟨_, ⟨by decide, rfl⟩, if_pos (Or.inl ⟨by decide, by decide⟩)⟩
  | 1, _, 4, _ => exact ⟨_, ⟨by decide, rfl⟩, if_pos (Or.inl ⟨by decide, by decide⟩)⟩
  | 1, _, 5, _ => exact ⟨_, ⟨by decide, rfl⟩, if_pos (Or.inr rfl)⟩
  | 1, _, 6, _ => exact ⟨_, ⟨by decide, rfl⟩, if_pos (Or.inr rfl)⟩
  | 1, _, 7, _ => exact ⟨_, ⟨by decide, rfl⟩, if_pos (Or.inr rfl)⟩
  | 2, _, 0, _ => exact ⟨_, ⟨by decide, rfl⟩, if_pos (Or.inr rfl)⟩
  | 2, _, 1, _ => exact ⟨_, ⟨by decide, rfl⟩, if_pos (Or.inr rfl)⟩
  | 2, _, 2, _ => exact ⟨_, ⟨by decide, rfl⟩, if_pos (Or.inl ⟨by decide, by decide⟩)⟩
  | 2, _, 3, _ => exact ⟨_, ⟨by decide, rfl⟩, if_pos (Or.inl ⟨by decide, by decide⟩)⟩
  | 2, _, 4, _ => exact ⟨_, ⟨by decide, rfl⟩, if_pos (Or.inl ⟨by decide, by decide⟩)⟩
  | 2, _, 5, _ => exact ⟨_, ⟨by decide, rfl⟩, if_pos (Or.inl ⟨by decide, by decide⟩)⟩
  | 2, _, 6, _ => exact ⟨_, ⟨by decide, rfl⟩, if_pos (Or.inr rfl)⟩
  | 2, _, 7, _ => exact ⟨_, ⟨by decide, rfl⟩, if_pos (Or.inr rfl)⟩
  | 3, _, 0, _ => exact ⟨_, ⟨by decide, rfl⟩, if_pos (Or.inr rfl)⟩
  | 3, _, 1, _ => exact ⟨_, ⟨by decide, rfl⟩, if_pos (Or.inr rfl)⟩
  | 3, _, 2, _ => exact ⟨_, ⟨by decide, rfl⟩, if_pos (Or.inr rfl)⟩
  | 3, _, 3, _ => exact ⟨_, ⟨by decide, rfl⟩, if_pos (Or.inl ⟨by decide, by decide⟩)⟩
  | 3, _, 4, _ => exact ⟨_, ⟨by decide, rfl⟩, if_pos (Or.inl ⟨by decide, by decide⟩)⟩
  | 3, _, 5, _ => exact ⟨_, ⟨by decide, rfl⟩, if_pos (Or.inl ⟨by decide, by decide⟩)⟩
  | 3, _, 6, _ => exact ⟨_, ⟨by decide, rfl⟩, if_pos (Or.inl ⟨by decide, by decide⟩)⟩
  | 3, _, 7, _ => exact ⟨_, ⟨by decide, rfl⟩, if_pos (Or.inr rfl)⟩
theorem own_rd4 {o : Int32} (ho : ∃ n : Fin 4, o = Int32.ofNat n.val) (f y0 y1 y2 y3 : Int32) : OAt (((([f, f, f, f, f, f, f, f].set o.toNatClampNeg y0).set (o + (1 : Int32)).toNatClampNeg y1).set ((o + (1 : Int32)) + (1 : Int32)).toNatClampNeg y2).set (((o + (1 : Int32)) + (1 : Int32)) + (1 : Int32)).toNatClampNeg y3) o y0 ∧ OAt (((([f, f, f, f, f, f, f, f].set o.toNatClampNeg y0).set (o + (1 : Int32)).toNatClampNeg y1).set ((o + (1 : Int32)) + (1 : Int32)).toNatClampNeg y2).set (((o + (1 : Int32)) + (1 : Int32)) + (1 : Int32)).toNatClampNeg y3) (o + (1 : Int32)) y1 ∧ OAt (((([f, f, f, f, f, f, f, f].set o.toNatClampNeg y0).set (o + (1 : Int32)).toNatClampNeg y1).set ((o + (1 : Int32)) + (1 : Int32)).toNatClampNeg y2).set (((o + (1 : Int32)) + (1 : Int32)) + (1 : Int32)).toNatClampNeg y3) (o + (2 : Int32)) y2 ∧ OAt (((([f, f, f, f, f, f, f, f].set o.toNatClampNeg y0).set (o + (1 : Int32)).toNatClampNeg y1).set ((o + (1 : Int32)) + (1 : Int32)).toNatClampNeg y2).set (((o + (1 : Int32)) + (1 : Int32)) + (1 : Int32)).toNatClampNeg y3) (o + (3 : Int32)) y3 := by
  obtain ⟨⟨n, hn⟩, rfl⟩ := ho
  dsimp only
  match n, hn with
  | 0, _ => exact ⟨⟨by decide, rfl⟩, ⟨by decide, rfl⟩, ⟨by decide, rfl⟩, ⟨by decide, rfl⟩⟩
  | 1, _ => exact ⟨⟨by decide, rfl⟩, ⟨by decide, rfl⟩, ⟨by decide, rfl⟩, ⟨by decide, rfl⟩⟩
  | 2, _ => exact ⟨⟨by decide, rfl⟩, ⟨by decide, rfl⟩, ⟨by decide, rfl⟩, ⟨by decide, rfl⟩⟩
  | 3, _ => exact ⟨⟨by decide, rfl⟩, ⟨by decide, rfl⟩, ⟨by decide, rfl⟩, ⟨by decide, rfl⟩⟩
def Q_own_mput (Z : State) (vc : Int32) (ra : Addr) (vo : Int32) (vs : List Int32) (h0 : Heap) (n0 : Nat) (v : Option Value) (h : Heap) (L : List Loc) : Prop := v = some (.int (own_end vo vc)) ∧ Fr n0 L ∧ Keep h0 h [ra] ∧ OAL Z h ra .byte (own_wr vs vo vc)
theorem own_pn0 : plainName "com/example/libmsgframe/libmsgframe/Utf8" = true := by first | (simp [plainName, overriddenIn]; done) | decide +kernel
theorem ef_own_mput (m : MethodId) (x0 : Int32) (x1 : Addr) (x2 : Int32) : entryFrame m #[(.int x0), (.ref x1), (.int x2)] 4 = mkF m 0 #[.val (.int x0), .val (.ref x1), .val (.int x2), .unset] [] := by first | (simp [entryFrame, mkF, argsToLocals, Value.category]; done) | rfl
theorem d1_0 : decode prog_10_method_12_code 0 = .ok (.iload_n 2, 1) := by decide +kernel
theorem d1_1 : decode prog_10_method_12_code 1 = .ok (.istore_n 3, 1) := by decide +kernel
theorem d1_2 : decode prog_10_method_12_code 2 = .ok (.iload_n 0, 1) := by decide +kernel
theorem d1_3 : decode prog_10_method_12_code 3 = .ok (.sipush 2048, 3) := by decide +kernel
theorem d1_6 : decode prog_10_method_12_code 6 = .ok (.if_icmp .ge 36, 3) := by decide +kernel
theorem d1_9 : decode prog_10_method_12_code 9 = .ok (.aload_n 1, 1) := by decide +kernel
theorem d1_10 : decode prog_10_method_12_code 10 = .ok (.iload_n 3, 1) := by decide +kernel
theorem d1_11 : decode prog_10_method_12_code 11 = .ok (.iinc 3 1, 3) := by decide +kernel
theorem d1_14 : decode prog_10_method_12_code 14 = .ok (.sipush 192, 3) := by decide +kernel
theorem d1_17 : decode prog_10_method_12_code 17 = .ok (.iload_n 0, 1) := by decide +kernel
theorem d1_18 : decode prog_10_method_12_code 18 = .ok (.bipush 6, 2) := by decide +kernel
theorem d1_20 : decode prog_10_method_12_code 20 = .ok (.ishr, 1) := by decide +kernel
theorem d1_21 : decode prog_10_method_12_code 21 = .ok (.ior, 1) := by decide +kernel
theorem d1_22 : decode prog_10_method_12_code 22 = .ok (.i2b, 1) := by decide +kernel
theorem d1_23 : decode prog_10_method_12_code 23 = .ok (.bastore, 1) := by decide +kernel
theorem d1_24 : decode prog_10_method_12_code 24 = .ok (.aload_n 1, 1) := by decide +kernel
theorem d1_25 : decode prog_10_method_12_code 25 = .ok (.iload_n 3, 1) := by decide +kernel
theorem d1_26 : decode prog_10_method_12_code 26 = .ok (.iinc 3 1, 3) := by decide +kernel
theorem d1_29 : decode prog_10_method_12_code 29 = .ok (.sipush 128, 3) := by decide +kernel
theorem d1_32 : decode prog_10_method_12_code 32 = .ok (.iload_n 0, 1) := by decide +kernel
theorem d1_33 : decode prog_10_method_12_code 33 = .ok (.bipush 63, 2) := by decide +kernel
theorem d1_35 : decode prog_10_method_12_code 35 = .ok (.iand, 1) := by decide +kernel
theorem d1_36 : decode prog_10_method_12_code 36 = .ok (.ior, 1) := by decide +kernel
theorem d1_37 : decode prog_10_method_12_code 37 = .ok (.i2b, 1) := by decide +kernel
theorem d1_38 : decode prog_10_method_12_code 38 = .ok (.bastore, 1) := by decide +kernel
theorem d1_39 : decode prog_10_method_12_code 39 = .ok (.goto 126, 3) := by decide +kernel
theorem d1_42 : decode prog_10_method_12_code 42 = .ok (.iload_n 0, 1) := by decide +kernel
theorem d1_43 : decode prog_10_method_12_code 43 = .ok (.ldc 118, 2) := by decide +kernel
theorem d1_45 : decode prog_10_method_12_code 45 = .ok (.if_icmp .ge 54, 3) := by decide +kernel
theorem d1_48 : decode prog_10_method_12_code 48 = .ok (.aload_n 1, 1) := by decide +kernel
theorem d1_49 : decode prog_10_method_12_code 49 = .ok (.iload_n 3, 1) := by decide +kernel
theorem d1_50 : decode prog_10_method_12_code 50 = .ok (.iinc 3 1, 3) := by decide +kernel
theorem d1_53 : decode prog_10_method_12_code 53 = .ok (.sipush 224, 3) := by decide +kernel
theorem d1_56 : decode prog_10_method_12_code 56 = .ok (.iload_n 0, 1) := by decide +kernel
theorem d1_57 : decode prog_10_method_12_code 57 = .ok (.bipush 12, 2) := by decide +kernel
theorem d1_59 : decode prog_10_method_12_code 59 = .ok (.ishr, 1) := by decide +kernel
theorem d1_60 : decode prog_10_method_12_code 60 = .ok (.ior, 1) := by decide +kernel
theorem d1_61 : decode prog_10_method_12_code 61 = .ok (.i2b, 1) := by decide +kernel
theorem d1_62 : decode prog_10_method_12_code 62 = .ok (.bastore, 1) := by decide +kernel
theorem d1_63 : decode prog_10_method_12_code 63 = .ok (.aload_n 1, 1) := by decide +kernel
theorem d1_64 : decode prog_10_method_12_code 64 = .ok (.iload_n 3, 1) := by decide +kernel
theorem d1_65 : decode prog_10_method_12_code 65 = .ok (.iinc 3 1, 3) := by decide +kernel
theorem d1_68 : decode prog_10_method_12_code 68 = .ok (.sipush 128, 3) := by decide +kernel
theorem d1_71 : decode prog_10_method_12_code 71 = .ok (.iload_n 0, 1) := by decide +kernel
theorem d1_72 : decode prog_10_method_12_code 72 = .ok (.bipush 6, 2) := by decide +kernel
theorem d1_74 : decode prog_10_method_12_code 74 = .ok (.ishr, 1) := by decide +kernel
theorem d1_75 : decode prog_10_method_12_code 75 = .ok (.bipush 63, 2) := by decide +kernel
theorem d1_77 : decode prog_10_method_12_code 77 = .ok (.iand, 1) := by decide +kernel
theorem d1_78 : decode prog_10_method_12_code 78 = .ok (.ior, 1) := by decide +kernel
theorem d1_79 : decode prog_10_method_12_code 79 = .ok (.i2b, 1) := by decide +kernel
theorem d1_80 : decode prog_10_method_12_code 80 = .ok (.bastore, 1) := by decide +kernel
theorem d1_81 : decode prog_10_method_12_code 81 = .ok (.aload_n 1, 1) := by decide +kernel
theorem d1_82 : decode prog_10_method_12_code 82 = .ok (.iload_n 3, 1) := by decide +kernel
theorem d1_83 : decode prog_10_method_12_code 83 = .ok (.iinc 3 1, 3) := by decide +kernel
theorem d1_86 : decode prog_10_method_12_code 86 = .ok (.sipush 128, 3) := by decide +kernel
theorem d1_89 : decode prog_10_method_12_code 89 = .ok (.iload_n 0, 1) := by decide +kernel
theorem d1_90 : decode prog_10_method_12_code 90 = .ok (.bipush 63, 2) := by decide +kernel
theorem d1_92 : decode prog_10_method_12_code 92 = .ok (.iand, 1) := by decide +kernel
theorem d1_93 : decode prog_10_method_12_code 93 = .ok (.ior, 1) := by decide +kernel
theorem d1_94 : decode prog_10_method_12_code 94 = .ok (.i2b, 1) := by decide +kernel
theorem d1_95 : decode prog_10_method_12_code 95 = .ok (.bastore, 1) := by decide +kernel
theorem d1_96 : decode prog_10_method_12_code 96 = .ok (.goto 69, 3) := by decide +kernel
theorem d1_99 : decode prog_10_method_12_code 99 = .ok (.aload_n 1, 1) := by decide +kernel
theorem d1_100 : decode prog_10_method_12_code 100 = .ok (.iload_n 3, 1) := by decide +kernel
theorem d1_101 : decode prog_10_method_12_code 101 = .ok (.iinc 3 1, 3) := by decide +kernel
theorem d1_104 : decode prog_10_method_12_code 104 = .ok (.sipush 240, 3) := by decide +kernel
theorem d1_107 : decode prog_10_method_12_code 107 = .ok (.iload_n 0, 1) := by decide +kernel
theorem d1_108 : decode prog_10_method_12_code 108 = .ok (.bipush 18, 2) := by decide +kernel
theorem d1_110 : decode prog_10_method_12_code 110 = .ok (.ishr, 1) := by decide +kernel
theorem d1_111 : decode prog_10_method_12_code 111 = .ok (.ior, 1) := by decide +kernel
theorem d1_112 : decode prog_10_method_12_code 112 = .ok (.i2b, 1) := by decide +kernel
theorem d1_113 : decode prog_10_method_12_code 113 = .ok (.bastore, 1) := by decide +kernel
theorem d1_114 : decode prog_10_method_12_code 114 = .ok (.aload_n 1, 1) := by decide +kernel
theorem d1_115 : decode prog_10_method_12_code 115 = .ok (.iload_n 3, 1) := by decide +kernel
theorem d1_116 : decode prog_10_method_12_code 116 = .ok (.iinc 3 1, 3) := by decide +kernel
theorem d1_119 : decode prog_10_method_12_code 119 = .ok (.sipush 128, 3) := by decide +kernel
theorem d1_122 : decode prog_10_method_12_code 122 = .ok (.iload_n 0, 1) := by decide +kernel
theorem d1_123 : decode prog_10_method_12_code 123 = .ok (.bipush 12, 2) := by decide +kernel
theorem d1_125 : decode prog_10_method_12_code 125 = .ok (.ishr, 1) := by decide +kernel
theorem d1_126 : decode prog_10_method_12_code 126 = .ok (.bipush 63, 2) := by decide +kernel
theorem d1_128 : decode prog_10_method_12_code 128 = .ok (.iand, 1) := by decide +kernel
theorem d1_129 : decode prog_10_method_12_code 129 = .ok (.ior, 1) := by decide +kernel
theorem d1_130 : decode prog_10_method_12_code 130 = .ok (.i2b, 1) := by decide +kernel
theorem d1_131 : decode prog_10_method_12_code 131 = .ok (.bastore, 1) := by decide +kernel
theorem d1_132 : decode prog_10_method_12_code 132 = .ok (.aload_n 1, 1) := by decide +kernel
theorem d1_133 : decode prog_10_method_12_code 133 = .ok (.iload_n 3, 1) := by decide +kernel
theorem d1_134 : decode prog_10_method_12_code 134 = .ok (.iinc 3 1, 3) := by decide +kernel
theorem d1_137 : decode prog_10_method_12_code 137 = .ok (.sipush 128, 3) := by decide +kernel
theorem d1_140 : decode prog_10_method_12_code 140 = .ok (.iload_n 0, 1) := by decide +kernel
theorem d1_141 : decode prog_10_method_12_code 141 = .ok (.bipush 6, 2) := by decide +kernel
theorem d1_143 : decode prog_10_method_12_code 143 = .ok (.ishr, 1) := by decide +kernel
theorem d1_144 : decode prog_10_method_12_code 144 = .ok (.bipush 63, 2) := by decide +kernel
theorem d1_146 : decode prog_10_method_12_code 146 = .ok (.iand, 1) := by decide +kernel
theorem d1_147 : decode prog_10_method_12_code 147 = .ok (.ior, 1) := by decide +kernel
theorem d1_148 : decode prog_10_method_12_code 148 = .ok (.i2b, 1) := by decide +kernel
theorem d1_149 : decode prog_10_method_12_code 149 = .ok (.bastore, 1) := by decide +kernel
theorem d1_150 : decode prog_10_method_12_code 150 = .ok (.aload_n 1, 1) := by decide +kernel
theorem d1_151 : decode prog_10_method_12_code 151 = .ok (.iload_n 3, 1) := by decide +kernel
theorem d1_152 : decode prog_10_method_12_code 152 = .ok (.iinc 3 1, 3) := by decide +kernel
theorem d1_155 : decode prog_10_method_12_code 155 = .ok (.sipush 128, 3) := by decide +kernel
theorem d1_158 : decode prog_10_method_12_code 158 = .ok (.iload_n 0, 1) := by decide +kernel
theorem d1_159 : decode prog_10_method_12_code 159 = .ok (.bipush 63, 2) := by decide +kernel
theorem d1_161 : decode prog_10_method_12_code 161 = .ok (.iand, 1) := by decide +kernel
theorem d1_162 : decode prog_10_method_12_code 162 = .ok (.ior, 1) := by decide +kernel
theorem d1_163 : decode prog_10_method_12_code 163 = .ok (.i2b, 1) := by decide +kernel
theorem d1_164 : decode prog_10_method_12_code 164 = .ok (.bastore, 1) := by decide +kernel
theorem d1_165 : decode prog_10_method_12_code 165 = .ok (.iload_n 3, 1) := by decide +kernel
theorem d1_166 : decode prog_10_method_12_code 166 = .ok (.ireturn, 1) := by decide +kernel
set_option maxRecDepth 65536 in
set_option maxHeartbeats 40000000 in
theorem own_mput (l : Launch) (Z : State) (a0 : Array Value) (hw : ∀ d ∈ tables_1, d.before a0 Z = true) (ws : List Jvm.Cond) (vc : Int32) (ra : Addr) (vo : Int32) (vs : List Int32) (h0 : Heap) (n0 : Nat) (Z0 : n0 ≤ h0.size) (g_ra : n0 ≤ ra) (ho : ∃ n : Fin 4, vo = Int32.ofNat n.val) (hl : vs.length = 8) (A0 : OAL Z h0 ra .byte vs) :
    MetFree l (⟨"com/example/libmsgframe/libmsgframe/Utf8", "putBeyondAscii", "(I[BI)I"⟩ : MethodName) (head1 (Jvm.Cond.code (⟨"com/example/libmsgframe/libmsgframe/Utf8", "putBeyondAscii", "(I[BI)I"⟩ : MethodName) prog_10_method_12_code 4 (some .int) :: ws) ({ frames := 0, cells := 0, slots := 0, locals := 0 } : Room)) (fun a U => a = #[(.int vc), (.ref ra), (.int vo)] ∧ Z.Warmed39 U.vm ∧ U.heap = h0) (fun _ _ _ _ _ => True) (fun _ U o U' => ∃ v L, o = .returned v ∧ (Q_own_mput Z vc ra vo vs h0 n0) v U'.heap L ∧ FrameEnd U o U' L ({ frames := 0, cells := 0, slots := 0, locals := 0 } : Room).cells ({ frames := 0, cells := 0, slots := 0, locals := 0 } : Room).slots) := by
  refine MetFree.of_bodySF (plainFor_of_name own_pn0) hisR ?_
  intro p e s m args below meth c s₁ Bd hml0 hP hK
  obtain ⟨rfl, hZ, hh⟩ := hP
  have hx := Bd.exec
  have hby := Bd.bytes
  have hret := Bd.returns
  have hlk : meth.locks = false := Bd.notSynchronized
  have hml : c.maxLocals = 4 := hml0
  have hown : s.vm.findClass "com/example/libmsgframe/libmsgframe/Utf8" = some m.cls := findClass_of_methodNamed Bd.named
  have hnm := (name_of_methodNamed Bd.named Bd.method).1
  have X0 : Stand p l e ({ frames := 0, cells := 0, slots := 0, locals := 0 } : Room) s m #[(.int vc), (.ref ra), (.int vo)] below meth c s₁ [] 0 0 := Stand.of_body Bd
  have e0 : s₁.heap = h0 := by rw [← hh, Bd.state]; rfl
  have N0 := Fr.nil n0
  have pre0 : ∀ t, Steps p.tables e below (s₁.setTop (mkF m 0 #[.val (.int vc), .val (.ref ra), .val (.int vo), .unset] [])) t → Steps p.tables e below (s₁.setTop (entryFrame m #[(.int vc), (.ref ra), (.int vo)] 4)) t := fun t k => castTop (ef_own_mput m vc ra vo) k
  have K0 : Keep h0 h0 [ra] := Keep.refl _ _
  show OGo p e below s (Q_own_mput Z vc ra vo vs h0 n0) ({ frames := 0, cells := 0, slots := 0, locals := 0 } : Room).cells ({ frames := 0, cells := 0, slots := 0, locals := 0 } : Room).slots (s₁.setTop (entryFrame m #[(.int vc), (.ref ra), (.int vo)] 4))
  refine OGo.on pre0 ?_
  show OGo p e below s _ _ _ (s₁.setTop (mkF m 0 #[.val (.int vc), .val (.ref ra), .val (.int vo), .unset] []))
  refine OGo.on (fun t k => XS.iloadN X0.here hx rfl (hb hby d1_0) rfl k) ?_
  show OGo p e below s _ _ _ (s₁.setTop (mkF m 1 #[.val (.int vc), .val (.ref ra), .val (.int vo), .unset] [(.int vo)]))
  refine OGo.on (fun t k => XS.istoreN X0.here hx rfl (hb hby d1_1) rfl (l' := #[.val (.int vc), .val (.ref ra), .val (.int vo), .val (.int vo)]) rfl k) ?_
  show OGo p e below s _ _ _ (s₁.setTop (mkF m 2 #[.val (.int vc), .val (.ref ra), .val (.int vo), .val (.int vo)] []))
  refine OGo.on (fun t k => XS.iloadN X0.here hx rfl (hb hby d1_2) rfl k) ?_
  show OGo p e below s _ _ _ (s₁.setTop (mkF m 3 #[.val (.int vc), .val (.ref ra), .val (.int vo), .val (.int vo)] [(.int vc)]))
  refine OGo.on (fun t k => XS.sipush X0.here hx rfl (hb hby d1_3) k) ?_
  show OGo p e below s _ _ _ (s₁.setTop (mkF m 6 #[.val (.int vc), .val (.ref ra), .val (.int vo), .val (.int vo)] [(.int (2048 : Int32)), (.int vc)]))
  by_cases hc1 : vc < (2048 : Int32)
  · refine OGo.on (fun t k => XS.icmpNo X0.here hx rfl (hb hby d1_6) rfl (tlt hc1).2.1 k) ?_
    show OGo p e below s _ _ _ (s₁.setTop (mkF m 9 #[.val (.int vc), .val (.ref ra), .val (.int vo), .val (.int vo)] []))
    refine OGo.on (fun t k => XS.aloadN X0.here hx rfl (hb hby d1_9) rfl rfl k) ?_
    show OGo p e below s _ _ _ (s₁.setTop (mkF m 10 #[.val (.int vc), .val (.ref ra), .val (.int vo), .val (.int vo)] [(.ref ra)]))
    refine OGo.on (fun t k => XS.iloadN X0.here hx rfl (hb hby d1_10) rfl k) ?_
    show OGo p e below s _ _ _ (s₁.setTop (mkF m 11 #[.val (.int vc), .val (.ref ra), .val (.int vo), .val (.int vo)] [(.int vo), (.ref ra)]))
    refine OGo.on (fun t k => XS.iinc X0.here hx rfl (hb hby d1_11) rfl (l' := #[.val (.int vc), .val (.ref ra), .val (.int vo), .val (.int (vo + (1 : Int32)))]) rfl k) ?_
    show OGo p e below s _ _ _ (s₁.setTop (mkF m 14 #[.val (.int vc), .val (.ref ra), .val (.int vo), .val (.int (vo + (1 : Int32)))] [(.int vo), (.ref ra)]))
    refine OGo.on (fun t k => XS.sipush X0.here hx rfl (hb hby d1_14) k) ?_
    show OGo p e below s _ _ _ (s₁.setTop (mkF m 17 #[.val (.int vc), .val (.ref ra), .val (.int vo), .val (.int (vo + (1 : Int32)))] [(.int (192 : Int32)), (.int vo), (.ref ra)]))
    refine OGo.on (fun t k => XS.iloadN X0.here hx rfl (hb hby d1_17) rfl k) ?_
    show OGo p e below s _ _ _ (s₁.setTop (mkF m 18 #[.val (.int vc), .val (.ref ra), .val (.int vo), .val (.int (vo + (1 : Int32)))] [(.int vc), (.int (192 : Int32)), (.int vo), (.ref ra)]))
    refine OGo.on (fun t k => XS.bipush X0.here hx rfl (hb hby d1_18) k) ?_
    show OGo p e below s _ _ _ (s₁.setTop (mkF m 20 #[.val (.int vc), .val (.ref ra), .val (.int vo), .val (.int (vo + (1 : Int32)))] [(.int (6 : Int32)), (.int vc), (.int (192 : Int32)), (.int vo), (.ref ra)]))
    refine OGo.on (fun t k => XS.ishr X0.here hx rfl (hb hby d1_20) rfl k) ?_
    show OGo p e below s _ _ _ (s₁.setTop (mkF m 21 #[.val (.int vc), .val (.ref ra), .val (.int vo), .val (.int (vo + (1 : Int32)))] [(.int (vc >>> ((6 : Int32) &&& 31))), (.int (192 : Int32)), (.int vo), (.ref ra)]))
    refine OGo.on (fun t k => XS.ior X0.here hx rfl (hb hby d1_21) rfl k) ?_
    show OGo p e below s _ _ _ (s₁.setTop (mkF m 22 #[.val (.int vc), .val (.ref ra), .val (.int vo), .val (.int (vo + (1 : Int32)))] [(.int ((192 : Int32) ||| (vc >>> ((6 : Int32) &&& 31)))), (.int vo), (.ref ra)]))
    refine OGo.on (fun t k => XS.i2b X0.here hx rfl (hb hby d1_22) rfl k) ?_
    show OGo p e below s _ _ _ (s₁.setTop (mkF m 23 #[.val (.int vc), .val (.ref ra), .val (.int vo), .val (.int (vo + (1 : Int32)))] [(.int (((192 : Int32) ||| (vc >>> ((6 : Int32) &&& 31))).toInt8.toInt32)), (.int vo), (.ref ra)]))
    obtain ⟨T2, h2, X2, e2, W2, A2, st2⟩ := OAL.stB X0 hx hZ e0 A0 (j := vo) (x := (((192 : Int32) ||| (vc >>> ((6 : Int32) &&& 31))).toInt8.toInt32)) (own_x (P := fun o => ¬ o < 0) ho (by decide)) (by (try simp only [List.length_set]); rw [hl]; exact own_x (P := fun o => o.toNatClampNeg < 8) ho (by decide)) (Ls := #[.val (.int vc), .val (.ref ra), .val (.int vo), .val (.int (vo + (1 : Int32)))]) (rest := []) (hb hby d1_23)
    have Z3 : n0 ≤ h2.size := Nat.le_trans Z0 (Nat.le_of_eq W2.size.symm)
    have N4 := Fr.snoc X2 N0 g_ra
    obtain ⟨Lh5, Xh5, Nh5⟩ := own_hide X2 N4
    have K6 : Keep h0 h2 [ra] := K0.wr W2 (Or.inl (List.mem_of_getElem? (i := 0) rfl))
    have V2 : OAL Z h2 ra .byte (vs.set vo.toNatClampNeg (nar .byte (((192 : Int32) ||| (vc >>> ((6 : Int32) &&& 31))).toInt8.toInt32))) := A2
    refine OGo.on st2 ?_
    show OGo p e below s _ _ _ (T2.setTop (mkF m 24 #[.val (.int vc), .val (.ref ra), .val (.int vo), .val (.int (vo + (1 : Int32)))] []))
    refine OGo.on (fun t k => XS.aloadN Xh5.here hx rfl (hb hby d1_24) rfl rfl k) ?_
    show OGo p e below s _ _ _ (T2.setTop (mkF m 25 #[.val (.int vc), .val (.ref ra), .val (.int vo), .val (.int (vo + (1 : Int32)))] [(.ref ra)]))
    refine OGo.on (fun t k => XS.iloadN Xh5.here hx rfl (hb hby d1_25) rfl k) ?_
    show OGo p e below s _ _ _ (T2.setTop (mkF m 26 #[.val (.int vc), .val (.ref ra), .val (.int vo), .val (.int (vo + (1 : Int32)))] [(.int (vo + (1 : Int32))), (.ref ra)]))
    refine OGo.on (fun t k => XS.iinc Xh5.here hx rfl (hb hby d1_26) rfl (l' := #[.val (.int vc), .val (.ref ra), .val (.int vo), .val (.int ((vo + (1 : Int32)) + (1 : Int32)))]) rfl k) ?_
    show OGo p e below s _ _ _ (T2.setTop (mkF m 29 #[.val (.int vc), .val (.ref ra), .val (.int vo), .val (.int ((vo + (1 : Int32)) + (1 : Int32)))] [(.int (vo + (1 : Int32))), (.ref ra)]))
    refine OGo.on (fun t k => XS.sipush Xh5.here hx rfl (hb hby d1_29) k) ?_
    show OGo p e below s _ _ _ (T2.setTop (mkF m 32 #[.val (.int vc), .val (.ref ra), .val (.int vo), .val (.int ((vo + (1 : Int32)) + (1 : Int32)))] [(.int (128 : Int32)), (.int (vo + (1 : Int32))), (.ref ra)]))
    refine OGo.on (fun t k => XS.iloadN Xh5.here hx rfl (hb hby d1_32) rfl k) ?_
    show OGo p e below s _ _ _ (T2.setTop (mkF m 33 #[.val (.int vc), .val (.ref ra), .val (.int vo), .val (.int ((vo + (1 : Int32)) + (1 : Int32)))] [(.int vc), (.int (128 : Int32)), (.int (vo + (1 : Int32))), (.ref ra)]))
    refine OGo.on (fun t k => XS.bipush Xh5.here hx rfl (hb hby d1_33) k) ?_
    show OGo p e below s _ _ _ (T2.setTop (mkF m 35 #[.val (.int vc), .val (.ref ra), .val (.int vo), .val (.int ((vo + (1 : Int32)) + (1 : Int32)))] [(.int (63 : Int32)), (.int vc), (.int (128 : Int32)), (.int (vo + (1 : Int32))), (.ref ra)]))
    refine OGo.on (fun t k => XS.iand Xh5.here hx rfl (hb hby d1_35) rfl k) ?_
    show OGo p e below s _ _ _ (T2.setTop (mkF m 36 #[.val (.int vc), .val (.ref ra), .val (.int vo), .val (.int ((vo + (1 : Int32)) + (1 : Int32)))] [(.int (vc &&& (63 : Int32))), (.int (128 : Int32)), (.int (vo + (1 : Int32))), (.ref ra)]))
    refine OGo.on (fun t k => XS.ior Xh5.here hx rfl (hb hby d1_36) rfl k) ?_
    show OGo p e below s _ _ _ (T2.setTop (mkF m 37 #[.val (.int vc), .val (.ref ra), .val (.int vo), .val (.int ((vo + (1 : Int32)) + (1 : Int32)))] [(.int ((128 : Int32) ||| (vc &&& (63 : Int32)))), (.int (vo + (1 : Int32))), (.ref ra)]))
    refine OGo.on (fun t k => XS.i2b Xh5.here hx rfl (hb hby d1_37) rfl k) ?_
    show OGo p e below s _ _ _ (T2.setTop (mkF m 38 #[.val (.int vc), .val (.ref ra), .val (.int vo), .val (.int ((vo + (1 : Int32)) + (1 : Int32)))] [(.int (((128 : Int32) ||| (vc &&& (63 : Int32))).toInt8.toInt32)), (.int (vo + (1 : Int32))), (.ref ra)]))
    obtain ⟨T7, h7, X7, e7, W7, A7, st7⟩ := OAL.stB Xh5 hx hZ e2 V2 (j := (vo + (1 : Int32))) (x := (((128 : Int32) ||| (vc &&& (63 : Int32))).toInt8.toInt32)) (own_x (P := fun o => ¬ (o + (1 : Int32)) < 0) ho (by decide)) (by (try simp only [List.length_set]); rw [hl]; exact own_x (P := fun o => (o + (1 : Int32)).toNatClampNeg < 8) ho (by decide)) (Ls := #[.val (.int vc), .val (.ref ra), .val (.int vo), .val (.int ((vo + (1 : Int32)) + (1 : Int32)))]) (rest := []) (hb hby d1_38)
    have Z8 : n0 ≤ h7.size := Nat.le_trans Z3 (Nat.le_of_eq W7.size.symm)
    have N9 := Fr.snoc X7 Nh5 g_ra
    obtain ⟨Lh10, Xh10, Nh10⟩ := own_hide X7 N9
    have K11 : Keep h0 h7 [ra] := K6.wr W7 (Or.inl (List.mem_of_getElem? (i := 0) rfl))
    have V7 : OAL Z h7 ra .byte ((vs.set vo.toNatClampNeg (nar .byte (((192 : Int32) ||| (vc >>> ((6 : Int32) &&& 31))).toInt8.toInt32))).set (vo + (1 : Int32)).toNatClampNeg (nar .byte (((128 : Int32) ||| (vc &&& (63 : Int32))).toInt8.toInt32))) := A7
    refine OGo.on st7 ?_
    show OGo p e below s _ _ _ (T7.setTop (mkF m 39 #[.val (.int vc), .val (.ref ra), .val (.int vo), .val (.int ((vo + (1 : Int32)) + (1 : Int32)))] []))
    refine OGo.on (fun t k => XS.goto Xh10.here hx rfl (pc0 := 39) (pc' := 165) rfl (hb hby d1_39) (by decide) (by decide) k) ?_
    show OGo p e below s _ _ _ (T7.setTop (mkF m 165 #[.val (.int vc), .val (.ref ra), .val (.int vo), .val (.int ((vo + (1 : Int32)) + (1 : Int32)))] []))
    refine OGo.on (fun t k => XS.iloadN Xh10.here hx rfl (hb hby d1_165) rfl k) ?_
    show OGo p e below s _ _ _ (T7.setTop (mkF m 166 #[.val (.int vc), .val (.ref ra), .val (.int vo), .val (.int ((vo + (1 : Int32)) + (1 : Int32)))] [(.int ((vo + (1 : Int32)) + (1 : Int32)))]))
    exact OGo.retI Xh10 hx hret hlk (hb hby d1_166) ⟨congrArg (fun z => some (Value.int z)) (own_end2 hc1).symm, Nh10, by rw [e7]; exact K11, by rw [e7, own_wr2 hc1]; exact V7⟩ (by decide) (by decide)
  · refine OGo.on (fun t k => XS.icmpYes X0.here hx rfl (pc0 := 6) (pc' := 42) rfl (hb hby d1_6) rfl (flt hc1).2.1 (by decide) (by decide) k) ?_
    show OGo p e below s _ _ _ (s₁.setTop (mkF m 42 #[.val (.int vc), .val (.ref ra), .val (.int vo), .val (.int vo)] []))
    refine OGo.on (fun t k => XS.iloadN X0.here hx rfl (hb hby d1_42) rfl k) ?_
    show OGo p e below s _ _ _ (s₁.setTop (mkF m 43 #[.val (.int vc), .val (.ref ra), .val (.int vo), .val (.int vo)] [(.int vc)]))
    refine OGo.on (fun t k => X0.ldcI hx hown (mvT hZ (hw _ (List.mem_of_getElem? (i := 14) rfl))) (g := (mkF m 43 #[.val (.int vc), .val (.ref ra), .val (.int vo), .val (.int vo)] [(.int vc)])) rfl (hb hby d1_43) k) ?_
    show OGo p e below s _ _ _ (s₁.setTop (mkF m 45 #[.val (.int vc), .val (.ref ra), .val (.int vo), .val (.int vo)] [(.int (65536 : Int32)), (.int vc)]))
    by_cases hc12 : vc < (65536 : Int32)
    · refine OGo.on (fun t k => XS.icmpNo X0.here hx rfl (hb hby d1_45) rfl (tlt hc12).2.1 k) ?_
      show OGo p e below s _ _ _ (s₁.setTop (mkF m 48 #[.val (.int vc), .val (.ref ra), .val (.int vo), .val (.int vo)] []))
      refine OGo.on (fun t k => XS.aloadN X0.here hx rfl (hb hby d1_48) rfl rfl k) ?_
      show OGo p e below s _ _ _ (s₁.setTop (mkF m 49 #[.val (.int vc), .val (.ref ra), .val (.int vo), .val (.int vo)] [(.ref ra)]))
      refine OGo.on (fun t k => XS.iloadN X0.here hx rfl (hb hby d1_49) rfl k) ?_
      show OGo p e below s _ _ _ (s₁.setTop (mkF m 50 #[.val (.int vc), .val (.ref ra), .val (.int vo), .val (.int vo)] [(.int vo), (.ref ra)]))
      refine OGo.on (fun t k => XS.iinc X0.here hx rfl (hb hby d1_50) rfl (l' := #[.val (.int vc), .val (.ref ra), .val (.int vo), .val (.int (vo + (1 : Int32)))]) rfl k) ?_
      show OGo p e below s _ _ _ (s₁.setTop (mkF m 53 #[.val (.int vc), .val (.ref ra), .val (.int vo), .val (.int (vo + (1 : Int32)))] [(.int vo), (.ref ra)]))
      refine OGo.on (fun t k => XS.sipush X0.here hx rfl (hb hby d1_53) k) ?_
      show OGo p e below s _ _ _ (s₁.setTop (mkF m 56 #[.val (.int vc), .val (.ref ra), .val (.int vo), .val (.int (vo + (1 : Int32)))] [(.int (224 : Int32)), (.int vo), (.ref ra)]))
      refine OGo.on (fun t k => XS.iloadN X0.here hx rfl (hb hby d1_56) rfl k) ?_
      show OGo p e below s _ _ _ (s₁.setTop (mkF m 57 #[.val (.int vc), .val (.ref ra), .val (.int vo), .val (.int (vo + (1 : Int32)))] [(.int vc), (.int (224 : Int32)), (.int vo), (.ref ra)]))
      refine OGo.on (fun t k => XS.bipush X0.here hx rfl (hb hby d1_57) k) ?_
      show OGo p e below s _ _ _ (s₁.setTop (mkF m 59 #[.val (.int vc), .val (.ref ra), .val (.int vo), .val (.int (vo + (1 : Int32)))] [(.int (12 : Int32)), (.int vc), (.int (224 : Int32)), (.int vo), (.ref ra)]))
      refine OGo.on (fun t k => XS.ishr X0.here hx rfl (hb hby d1_59) rfl k) ?_
      show OGo p e below s _ _ _ (s₁.setTop (mkF m 60 #[.val (.int vc), .val (.ref ra), .val (.int vo), .val (.int (vo + (1 : Int32)))] [(.int (vc >>> ((12 : Int32) &&& 31))), (.int (224 : Int32)), (.int vo), (.ref ra)]))
      refine OGo.on (fun t k => XS.ior X0.here hx rfl (hb hby d1_60) rfl k) ?_
      show OGo p e below s _ _ _ (s₁.setTop (mkF m 61 #[.val (.int vc), .val (.ref ra), .val (.int vo), .val (.int (vo + (1 : Int32)))] [(.int ((224 : Int32) ||| (vc >>> ((12 : Int32) &&& 31)))), (.int vo), (.ref ra)]))
      refine OGo.on (fun t k => XS.i2b X0.here hx rfl (hb hby d1_61) rfl k) ?_
      show OGo p e below s _ _ _ (s₁.setTop (mkF m 62 #[.val (.int vc), .val (.ref ra), .val (.int vo), .val (.int (vo + (1 : Int32)))] [(.int (((224 : Int32) ||| (vc >>> ((12 : Int32) &&& 31))).toInt8.toInt32)), (.int vo), (.ref ra)]))
      obtain ⟨T13, h13, X13, e13, W13, A13, st13⟩ := OAL.stB X0 hx hZ e0 A0 (j := vo) (x := (((224 : Int32) ||| (vc >>> ((12 : Int32) &&& 31))).toInt8.toInt32)) (own_x (P := fun o => ¬ o < 0) ho (by decide)) (by (try simp only [List.length_set]); rw [hl]; exact own_x (P := fun o => o.toNatClampNeg < 8) ho (by decide)) (Ls := #[.val (.int vc), .val (.ref ra), .val (.int vo), .val (.int (vo + (1 : Int32)))]) (rest := []) (hb hby d1_62)
      have Z14 : n0 ≤ h13.size := Nat.le_trans Z0 (Nat.le_of_eq W13.size.symm)
      have N15 := Fr.snoc X13 N0 g_ra
      obtain ⟨Lh16, Xh16, Nh16⟩ := own_hide X13 N15
      have K17 : Keep h0 h13 [ra] := K0.wr W13 (Or.inl (List.mem_of_getElem? (i := 0) rfl))
      have V13 : OAL Z h13 ra .byte (vs.set vo.toNatClampNeg (nar .byte (((224 : Int32) ||| (vc >>> ((12 : Int32) &&& 31))).toInt8.toInt32))) := A13
      refine OGo.on st13 ?_
      show OGo p e below s _ _ _ (T13.setTop (mkF m 63 #[.val (.int vc), .val (.ref ra), .val (.int vo), .val (.int (vo + (1 : Int32)))] []))
      refine OGo.on (fun t k => XS.aloadN Xh16.here hx rfl (hb hby d1_63) rfl rfl k) ?_
      show OGo p e below s _ _ _ (T13.setTop (mkF m 64 #[.val (.int vc), .val (.ref ra), .val (.int vo), .val (.int (vo + (1 : Int32)))] [(.ref ra)]))
      refine OGo.on (fun t k => XS.iloadN Xh16.here hx rfl (hb hby d1_64) rfl k) ?_
      show OGo p e below s _ _ _ (T13.setTop (mkF m 65 #[.val (.int vc), .val (.ref ra), .val (.int vo), .val (.int (vo + (1 : Int32)))] [(.int (vo + (1 : Int32))), (.ref ra)]))
      refine OGo.on (fun t k => XS.iinc Xh16.here hx rfl (hb hby d1_65) rfl (l' := #[.val (.int vc), .val (.ref ra), .val (.int vo), .val (.int ((vo + (1 : Int32)) + (1 : Int32)))]) rfl k) ?_
      show OGo p e below s _ _ _ (T13.setTop (mkF m 68 #[.val (.int vc), .val (.ref ra), .val (.int vo), .val (.int ((vo + (1 : Int32)) + (1 : Int32)))] [(.int (vo + (1 : Int32))), (.ref ra)]))
      refine OGo.on (fun t k => XS.sipush Xh16.here hx rfl (hb hby d1_68) k) ?_
      show OGo p e below s _ _ _ (T13.setTop (mkF m 71 #[.val (.int vc), .val (.ref ra), .val (.int vo), .val (.int ((vo + (1 : Int32)) + (1 : Int32)))] [(.int (128 : Int32)), (.int (vo + (1 : Int32))), (.ref ra)]))
      refine OGo.on (fun t k => XS.iloadN Xh16.here hx rfl (hb hby d1_71) rfl k) ?_
      show OGo p e below s _ _ _ (T13.setTop (mkF m 72 #[.val (.int vc), .val (.ref ra), .val (.int vo), .val (.int ((vo + (1 : Int32)) + (1 : Int32)))] [(.int vc), (.int (128 : Int32)), (.int (vo + (1 : Int32))), (.ref ra)]))
      refine OGo.on (fun t k => XS.bipush Xh16.here hx rfl (hb hby d1_72) k) ?_
      show OGo p e below s _ _ _ (T13.setTop (mkF m 74 #[.val (.int vc), .val (.ref ra), .val (.int vo), .val (.int ((vo + (1 : Int32)) + (1 : Int32)))] [(.int (6 : Int32)), (.int vc), (.int (128 : Int32)), (.int (vo + (1 : Int32))), (.ref ra)]))
      refine OGo.on (fun t k => XS.ishr Xh16.here hx rfl (hb hby d1_74) rfl k) ?_
      show OGo p e below s _ _ _ (T13.setTop (mkF m 75 #[.val (.int vc), .val (.ref ra), .val (.int vo), .val (.int ((vo + (1 : Int32)) + (1 : Int32)))] [(.int (vc >>> ((6 : Int32) &&& 31))), (.int (128 : Int32)), (.int (vo + (1 : Int32))), (.ref ra)]))
      refine OGo.on (fun t k => XS.bipush Xh16.here hx rfl (hb hby d1_75) k) ?_
      show OGo p e below s _ _ _ (T13.setTop (mkF m 77 #[.val (.int vc), .val (.ref ra), .val (.int vo), .val (.int ((vo + (1 : Int32)) + (1 : Int32)))] [(.int (63 : Int32)), (.int (vc >>> ((6 : Int32) &&& 31))), (.int (128 : Int32)), (.int (vo + (1 : Int32))), (.ref ra)]))
      refine OGo.on (fun t k => XS.iand Xh16.here hx rfl (hb hby d1_77) rfl k) ?_
      show OGo p e below s _ _ _ (T13.setTop (mkF m 78 #[.val (.int vc), .val (.ref ra), .val (.int vo), .val (.int ((vo + (1 : Int32)) + (1 : Int32)))] [(.int ((vc >>> ((6 : Int32) &&& 31)) &&& (63 : Int32))), (.int (128 : Int32)), (.int (vo + (1 : Int32))), (.ref ra)]))
      refine OGo.on (fun t k => XS.ior Xh16.here hx rfl (hb hby d1_78) rfl k) ?_
      show OGo p e below s _ _ _ (T13.setTop (mkF m 79 #[.val (.int vc), .val (.ref ra), .val (.int vo), .val (.int ((vo + (1 : Int32)) + (1 : Int32)))] [(.int ((128 : Int32) ||| ((vc >>> ((6 : Int32) &&& 31)) &&& (63 : Int32)))), (.int (vo + (1 : Int32))), (.ref ra)]))
      refine OGo.on (fun t k => XS.i2b Xh16.here hx rfl (hb hby d1_79) rfl k) ?_
      show OGo p e below s _ _ _ (T13.setTop (mkF m 80 #[.val (.int vc), .val (.ref ra), .val (.int vo), .val (.int ((vo + (1 : Int32)) + (1 : Int32)))] [(.int (((128 : Int32) ||| ((vc >>> ((6 : Int32) &&& 31)) &&& (63 : Int32))).toInt8.toInt32)), (.int (vo + (1 : Int32))), (.ref ra)]))
      obtain ⟨T18, h18, X18, e18, W18, A18, st18⟩ := OAL.stB Xh16 hx hZ e13 V13 (j := (vo + (1 : Int32))) (x := (((128 : Int32) ||| ((vc >>> ((6 : Int32) &&& 31)) &&& (63 : Int32))).toInt8.toInt32)) (own_x (P := fun o => ¬ (o + (1 : Int32)) < 0) ho (by decide)) (by (try simp only [List.length_set]); rw [hl]; exact own_x (P := fun o => (o + (1 : Int32)).toNatClampNeg < 8) ho (by decide)) (Ls := #[.val (.int vc), .val (.ref ra), .val (.int vo), .val (.int ((vo + (1 : Int32)) + (1 : Int32)))]) (rest := []) (hb hby d1_80)
      have Z19 : n0 ≤ h18.size := Nat.le_trans Z14 (Nat.le_of_eq W18.size.symm)
      have N20 := Fr.snoc X18 Nh16 g_ra
      obtain ⟨Lh21, Xh21, Nh21⟩ := own_hide X18 N20
      have K22 : Keep h0 h18 [ra] := K17.wr W18 (Or.inl (List.mem_of_getElem? (i := 0) rfl))
      have V18 : OAL Z h18 ra .byte ((vs.set vo.toNatClampNeg (nar .byte (((224 : Int32) ||| (vc >>> ((12 : Int32) &&& 31))).toInt8.toInt32))).set (vo + (1 : Int32)).toNatClampNeg (nar .byte (((128 : Int32) ||| ((vc >>> ((6 : Int32) &&& 31)) &&& (63 : Int32))).toInt8.toInt32))) := A18
      refine OGo.on st18 ?_
      show OGo p e below s _ _ _ (T18.setTop (mkF m 81 #[.val (.int vc), .val (.ref ra), .val (.int vo), .val (.int ((vo + (1 : Int32)) + (1 : Int32)))] []))
      refine OGo.on (fun t k => XS.aloadN Xh21.here hx rfl (hb hby d1_81) rfl rfl k) ?_
      show OGo p e below s _ _ _ (T18.setTop (mkF m 82 #[.val (.int vc), .val (.ref ra), .val (.int vo), .val (.int ((vo + (1 : Int32)) + (1 : Int32)))] [(.ref ra)]))
      refine OGo.on (fun t k => XS.iloadN Xh21.here hx rfl (hb hby d1_82) rfl k) ?_
      show OGo p e below s _ _ _ (T18.setTop (mkF m 83 #[.val (.int vc), .val (.ref ra), .val (.int vo), .val (.int ((vo + (1 : Int32)) + (1 : Int32)))] [(.int ((vo + (1 : Int32)) + (1 : Int32))), (.ref ra)]))
      refine OGo.on (fun t k => XS.iinc Xh21.here hx rfl (hb hby d1_83) rfl (l' := #[.val (.int vc), .val (.ref ra), .val (.int vo), .val (.int (((vo + (1 : Int32)) + (1 : Int32)) + (1 : Int32)))]) rfl k) ?_
      show OGo p e below s _ _ _ (T18.setTop (mkF m 86 #[.val (.int vc), .val (.ref ra), .val (.int vo), .val (.int (((vo + (1 : Int32)) + (1 : Int32)) + (1 : Int32)))] [(.int ((vo + (1 : Int32)) + (1 : Int32))), (.ref ra)]))
      refine OGo.on (fun t k => XS.sipush Xh21.here hx rfl (hb hby d1_86) k) ?_
      show OGo p e below s _ _ _ (T18.setTop (mkF m 89 #[.val (.int vc), .val (.ref ra), .val (.int vo), .val (.int (((vo + (1 : Int32)) + (1 : Int32)) + (1 : Int32)))] [(.int (128 : Int32)), (.int ((vo + (1 : Int32)) + (1 : Int32))), (.ref ra)]))
      refine OGo.on (fun t k => XS.iloadN Xh21.here hx rfl (hb hby d1_89) rfl k) ?_
      show OGo p e below s _ _ _ (T18.setTop (mkF m 90 #[.val (.int vc), .val (.ref ra), .val (.int vo), .val (.int (((vo + (1 : Int32)) + (1 : Int32)) + (1 : Int32)))] [(.int vc), (.int (128 : Int32)), (.int ((vo + (1 : Int32)) + (1 : Int32))), (.ref ra)]))
      refine OGo.on (fun t k => XS.bipush Xh21.here hx rfl (hb hby d1_90) k) ?_
      show OGo p e below s _ _ _ (T18.setTop (mkF m 92 #[.val (.int vc), .val (.ref ra), .val (.int vo), .val (.int (((vo + (1 : Int32)) + (1 : Int32)) + (1 : Int32)))] [(.int (63 : Int32)), (.int vc), (.int (128 : Int32)), (.int ((vo + (1 : Int32)) + (1 : Int32))), (.ref ra)]))
      refine OGo.on (fun t k => XS.iand Xh21.here hx rfl (hb hby d1_92) rfl k) ?_
      show OGo p e below s _ _ _ (T18.setTop (mkF m 93 #[.val (.int vc), .val (.ref ra), .val (.int vo), .val (.int (((vo + (1 : Int32)) + (1 : Int32)) + (1 : Int32)))] [(.int (vc &&& (63 : Int32))), (.int (128 : Int32)), (.int ((vo + (1 : Int32)) + (1 : Int32))), (.ref ra)]))
      refine OGo.on (fun t k => XS.ior Xh21.here hx rfl (hb hby d1_93) rfl k) ?_
      show OGo p e below s _ _ _ (T18.setTop (mkF m 94 #[.val (.int vc), .val (.ref ra), .val (.int vo), .val (.int (((vo + (1 : Int32)) + (1 : Int32)) + (1 : Int32)))] [(.int ((128 : Int32) ||| (vc &&& (63 : Int32)))), (.int ((vo + (1 : Int32)) + (1 : Int32))), (.ref ra)]))
      refine OGo.on (fun t k => XS.i2b Xh21.here hx rfl (hb hby d1_94) rfl k) ?_
      show OGo p e below s _ _ _ (T18.setTop (mkF m 95 #[.val (.int vc), .val (.ref ra), .val (.int vo), .val (.int (((vo + (1 : Int32)) + (1 : Int32)) + (1 : Int32)))] [(.int (((128 : Int32) ||| (vc &&& (63 : Int32))).toInt8.toInt32)), (.int ((vo + (1 : Int32)) + (1 : Int32))), (.ref ra)]))
      obtain ⟨T23, h23, X23, e23, W23, A23, st23⟩ := OAL.stB Xh21 hx hZ e18 V18 (j := ((vo + (1 : Int32)) + (1 : Int32))) (x := (((128 : Int32) ||| (vc &&& (63 : Int32))).toInt8.toInt32)) (own_x (P := fun o => ¬ ((o + (1 : Int32)) + (1 : Int32)) < 0) ho (by decide)) (by (try simp only [List.length_set]); rw [hl]; exact own_x (P := fun o => ((o + (1 : Int32)) + (1 : Int32)).toNatClampNeg < 8) ho (by decide)) (Ls := #[.val (.int vc), .val (.ref ra), .val (.int vo), .val (.int (((vo + (1 : Int32)) + (1 : Int32)) + (1 : Int32)))]) (rest := []) (hb hby d1_95)
      have Z24 : n0 ≤ h23.size := Nat.le_trans Z19 (Nat.le_of_eq W23.size.symm)
      have N25 := Fr.snoc X23 Nh21 g_ra
      obtain ⟨Lh26, Xh26, Nh26⟩ := own_hide X23 N25
      have K27 : Keep h0 h23 [ra] := K22.wr W23 (Or.inl (List.mem_of_getElem? (i := 0) rfl))
      have V23 : OAL Z h23 ra .byte (((vs.set vo.toNatClampNeg (nar .byte (((224 : Int32) ||| (vc >>> ((12 : Int32) &&& 31))).toInt8.toInt32))).set (vo + (1 : Int32)).toNatClampNeg (nar .byte (((128 : Int32) ||| ((vc >>> ((6 : Int32) &&& 31)) &&& (63 : Int32))).toInt8.toInt32))).set ((vo + (1 : Int32)) + (1 : Int32)).toNatClampNeg (nar .byte (((128 : Int32) ||| (vc &&& (63 : Int32))).toInt8.toInt32))) := A23
      refine OGo.on st23 ?_
      show OGo p e below s _ _ _ (T23.setTop (mkF m 96 #[.val (.int vc), .val (.ref ra), .val (.int vo), .val (.int (((vo + (1 : Int32)) + (1 : Int32)) + (1 : Int32)))] []))
      refine OGo.on (fun t k => XS.goto Xh26.here hx rfl (pc0 := 96) (pc' := 165) rfl (hb hby d1_96) (by decide) (by decide) k) ?_
      show OGo p e below s _ _ _ (T23.setTop (mkF m 165 #[.val (.int vc), .val (.ref ra), .val (.int vo), .val (.int (((vo + (1 : Int32)) + (1 : Int32)) + (1 : Int32)))] []))
      refine OGo.on (fun t k => XS.iloadN Xh26.here hx rfl (hb hby d1_165) rfl k) ?_
      show OGo p e below s _ _ _ (T23.setTop (mkF m 166 #[.val (.int vc), .val (.ref ra), .val (.int vo), .val (.int (((vo + (1 : Int32)) + (1 : Int32)) + (1 : Int32)))] [(.int (((vo + (1 : Int32)) + (1 : Int32)) + (1 : Int32)))]))
      exact OGo.retI Xh26 hx hret hlk (hb hby d1_166) ⟨congrArg (fun z => some (Value.int z)) (own_end3 hc1 hc12).symm, Nh26, by rw [e23]; exact K27, by rw [e23, own_wr3 hc1 hc12]; exact V23⟩ (by decide) (by decide)
    · refine OGo.on (fun t k => XS.icmpYes X0.here hx rfl (pc0 := 45) (pc' := 99) rfl (hb hby d1_45) rfl (flt hc12).2.1 (by decide) (by decide) k) ?_
      show OGo p e below s _ _ _ (s₁.setTop (mkF m 99 #[.val (.int vc), .val (.ref ra), .val (.int vo), .val (.int vo)] []))
      refine OGo.on (fun t k => XS.aloadN X0.here hx rfl (hb hby d1_99) rfl rfl k) ?_
      show OGo p e below s _ _ _ (s₁.setTop (mkF m 100 #[.val (.int vc), .val (.ref ra), .val (.int vo), .val (.int vo)] [(.ref ra)]))
      refine OGo.on (fun t k => XS.iloadN X0.here hx rfl (hb hby d1_100) rfl k) ?_
      show OGo p e below s _ _ _ (s₁.setTop (mkF m 101 #[.val (.int vc), .val (.ref ra), .val (.int vo), .val (.int vo)] [(.int vo), (.ref ra)]))
      refine OGo.on (fun t k => XS.iinc X0.here hx rfl (hb hby d1_101) rfl (l' := #[.val (.int vc), .val (.ref ra), .val (.int vo), .val (.int (vo + (1 : Int32)))]) rfl k) ?_
      show OGo p e below s _ _ _ (s₁.setTop (mkF m 104 #[.val (.int vc), .val (.ref ra), .val (.int vo), .val (.int (vo + (1 : Int32)))] [(.int vo), (.ref ra)]))
      refine OGo.on (fun t k => XS.sipush X0.here hx rfl (hb hby d1_104) k) ?_
      show OGo p e below s _ _ _ (s₁.setTop (mkF m 107 #[.val (.int vc), .val (.ref ra), .val (.int vo), .val (.int (vo + (1 : Int32)))] [(.int (240 : Int32)), (.int vo), (.ref ra)]))
      refine OGo.on (fun t k => XS.iloadN X0.here hx rfl (hb hby d1_107) rfl k) ?_
      show OGo p e below s _ _ _ (s₁.setTop (mkF m 108 #[.val (.int vc), .val (.ref ra), .val (.int vo), .val (.int (vo + (1 : Int32)))] [(.int vc), (.int (240 : Int32)), (.int vo), (.ref ra)]))
      refine OGo.on (fun t k => XS.bipush X0.here hx rfl (hb hby d1_108) k) ?_
      show OGo p e below s _ _ _ (s₁.setTop (mkF m 110 #[.val (.int vc), .val (.ref ra), .val (.int vo), .val (.int (vo + (1 : Int32)))] [(.int (18 : Int32)), (.int vc), (.int (240 : Int32)), (.int vo), (.ref ra)]))
      refine OGo.on (fun t k => XS.ishr X0.here hx rfl (hb hby d1_110) rfl k) ?_
      show OGo p e below s _ _ _ (s₁.setTop (mkF m 111 #[.val (.int vc), .val (.ref ra), .val (.int vo), .val (.int (vo + (1 : Int32)))] [(.int (vc >>> ((18 : Int32) &&& 31))), (.int (240 : Int32)), (.int vo), (.ref ra)]))
      refine OGo.on (fun t k => XS.ior X0.here hx rfl (hb hby d1_111) rfl k) ?_
      show OGo p e below s _ _ _ (s₁.setTop (mkF m 112 #[.val (.int vc), .val (.ref ra), .val (.int vo), .val (.int (vo + (1 : Int32)))] [(.int ((240 : Int32) ||| (vc >>> ((18 : Int32) &&& 31)))), (.int vo), (.ref ra)]))
      refine OGo.on (fun t k => XS.i2b X0.here hx rfl (hb hby d1_112) rfl k) ?_
      show OGo p e below s _ _ _ (s₁.setTop (mkF m 113 #[.val (.int vc), .val (.ref ra), .val (.int vo), .val (.int (vo + (1 : Int32)))] [(.int (((240 : Int32) ||| (vc >>> ((18 : Int32) &&& 31))).toInt8.toInt32)), (.int vo), (.ref ra)]))
      obtain ⟨T28, h28, X28, e28, W28, A28, st28⟩ := OAL.stB X0 hx hZ e0 A0 (j := vo) (x := (((240 : Int32) ||| (vc >>> ((18 : Int32) &&& 31))).toInt8.toInt32)) (own_x (P := fun o => ¬ o < 0) ho (by decide)) (by (try simp only [List.length_set]); rw [hl]; exact own_x (P := fun o => o.toNatClampNeg < 8) ho (by decide)) (Ls := #[.val (.int vc), .val (.ref ra), .val (.int vo), .val (.int (vo + (1 : Int32)))]) (rest := []) (hb hby d1_113)
      have Z29 : n0 ≤ h28.size := Nat.le_trans Z0 (Nat.le_of_eq W28.size.symm)
      have N30 := Fr.snoc X28 N0 g_ra
      obtain ⟨Lh31, Xh31, Nh31⟩ := own_hide X28 N30
      have K32 : Keep h0 h28 [ra] := K0.wr W28 (Or.inl (List.mem_of_getElem? (i := 0) rfl))
      have V28 : OAL Z h28 ra .byte (vs.set vo.toNatClampNeg (nar .byte (((240 : Int32) ||| (vc >>> ((18 : Int32) &&& 31))).toInt8.toInt32))) := A28
      refine OGo.on st28 ?_
      show OGo p e below s _ _ _ (T28.setTop (mkF m 114 #[.val (.int vc), .val (.ref ra), .val (.int vo), .val (.int (vo + (1 : Int32)))] []))
      refine OGo.on (fun t k => XS.aloadN Xh31.here hx rfl (hb hby d1_114) rfl rfl k) ?_
      show OGo p e below s _ _ _ (T28.setTop (mkF m 115 #[.val (.int vc), .val (.ref ra), .val (.int vo), .val (.int (vo + (1 : Int32)))] [(.ref ra)]))
      refine OGo.on (fun t k => XS.iloadN Xh31.here hx rfl (hb hby d1_115) rfl k) ?_
      show OGo p e below s _ _ _ (T28.setTop (mkF m 116 #[.val (.int vc), .val (.ref ra), .val (.int vo), .val (.int (vo + (1 : Int32)))] [(.int (vo + (1 : Int32))), (.ref ra)]))
      refine OGo.on (fun t k => XS.iinc Xh31.here hx rfl (hb hby d1_116) rfl (l' := #[.val (.int vc), .val (.ref ra), .val (.int vo), .val (.int ((vo + (1 : Int32)) + (1 : Int32)))]) rfl k) ?_
      show OGo p e below s _ _ _ (T28.setTop (mkF m 119 #[.val (.int vc), .val (.ref ra), .val (.int vo), .val (.int ((vo + (1 : Int32)) + (1 : Int32)))] [(.int (vo + (1 : Int32))), (.ref ra)]))
      refine OGo.on (fun t k => XS.sipush Xh31.here hx rfl (hb hby d1_119) k) ?_
      show OGo p e below s _ _ _ (T28.setTop (mkF m 122 #[.val (.int vc), .val (.ref ra), .val (.int vo), .val (.int ((vo + (1 : Int32)) + (1 : Int32)))] [(.int (128 : Int32)), (.int (vo + (1 : Int32))), (.ref ra)]))
      refine OGo.on (fun t k => XS.iloadN Xh31.here hx rfl (hb hby d1_122) rfl k) ?_
      show OGo p e below s _ _ _ (T28.setTop (mkF m 123 #[.val (.int vc), .val (.ref ra), .val (.int vo), .val (.int ((vo + (1 : Int32)) + (1 : Int32)))] [(.int vc), (.int (128 : Int32)), (.int (vo + (1 : Int32))), (.ref ra)]))
      refine OGo.on (fun t k => XS.bipush Xh31.here hx rfl (hb hby d1_123) k) ?_
      show OGo p e below s _ _ _ (T28.setTop (mkF m 125 #[.val (.int vc), .val (.ref ra), .val (.int vo), .val (.int ((vo + (1 : Int32)) + (1 : Int32)))] [(.int (12 : Int32)), (.int vc), (.int (128 : Int32)), (.int (vo + (1 : Int32))), (.ref ra)]))
      refine OGo.on (fun t k => XS.ishr Xh31.here hx rfl (hb hby d1_125) rfl k) ?_
      show OGo p e below s _ _ _ (T28.setTop (mkF m 126 #[.val (.int vc), .val (.ref ra), .val (.int vo), .val (.int ((vo + (1 : Int32)) + (1 : Int32)))] [(.int (vc >>> ((12 : Int32) &&& 31))), (.int (128 : Int32)), (.int (vo + (1 : Int32))), (.ref ra)]))
      refine OGo.on (fun t k => XS.bipush Xh31.here hx rfl (hb hby d1_126) k) ?_
      show OGo p e below s _ _ _ (T28.setTop (mkF m 128 #[.val (.int vc), .val (.ref ra), .val (.int vo), .val (.int ((vo + (1 : Int32)) + (1 : Int32)))] [(.int (63 : Int32)), (.int (vc >>> ((12 : Int32) &&& 31))), (.int (128 : Int32)), (.int (vo + (1 : Int32))), (.ref ra)]))
      refine OGo.on (fun t k => XS.iand Xh31.here hx rfl (hb hby d1_128) rfl k) ?_
      show OGo p e below s _ _ _ (T28.setTop (mkF m 129 #[.val (.int vc), .val (.ref ra), .val (.int vo), .val (.int ((vo + (1 : Int32)) + (1 : Int32)))] [(.int ((vc >>> ((12 : Int32) &&& 31)) &&& (63 : Int32))), (.int (128 : Int32)), (.int (vo + (1 : Int32))), (.ref ra)]))
      refine OGo.on (fun t k => XS.ior Xh31.here hx rfl (hb hby d1_129) rfl k) ?_
      show OGo p e below s _ _ _ (T28.setTop (mkF m 130 #[.val (.int vc), .val (.ref ra), .val (.int vo), .val (.int ((vo + (1 : Int32)) + (1 : Int32)))] [(.int ((128 : Int32) ||| ((vc >>> ((12 : Int32) &&& 31)) &&& (63 : Int32)))), (.int (vo + (1 : Int32))), (.ref ra)]))
      refine OGo.on (fun t k => XS.i2b Xh31.here hx rfl (hb hby d1_130) rfl k) ?_
      show OGo p e below s _ _ _ (T28.setTop (mkF m 131 #[.val (.int vc), .val (.ref ra), .val (.int vo), .val (.int ((vo + (1 : Int32)) + (1 : Int32)))] [(.int (((128 : Int32) ||| ((vc >>> ((12 : Int32) &&& 31)) &&& (63 : Int32))).toInt8.toInt32)), (.int (vo + (1 : Int32))), (.ref ra)]))
      obtain ⟨T33, h33, X33, e33, W33, A33, st33⟩ := OAL.stB Xh31 hx hZ e28 V28 (j := (vo + (1 : Int32))) (x := (((128 : Int32) ||| ((vc >>> ((12 : Int32) &&& 31)) &&& (63 : Int32))).toInt8.toInt32)) (own_x (P := fun o => ¬ (o + (1 : Int32)) < 0) ho (by decide)) (by (try simp only [List.length_set]); rw [hl]; exact own_x (P := fun o => (o + (1 : Int32)).toNatClampNeg < 8) ho (by decide)) (Ls := #[.val (.int vc), .val (.ref ra), .val (.int vo), .val (.int ((vo + (1 : Int32)) + (1 : Int32)))]) (rest := []) (hb hby d1_131)
      have Z34 : n0 ≤ h33.size := Nat.le_trans Z29 (Nat.le_of_eq W33.size.symm)
      have N35 := Fr.snoc X33 Nh31 g_ra
      obtain ⟨Lh36, Xh36, Nh36⟩ := own_hide X33 N35
      have K37 : Keep h0 h33 [ra] := K32.wr W33 (Or.inl (List.mem_of_getElem? (i := 0) rfl))
      have V33 : OAL Z h33 ra .byte ((vs.set vo.toNatClampNeg (nar .byte (((240 : Int32) ||| (vc >>> ((18 : Int32) &&& 31))).toInt8.toInt32))).set (vo + (1 : Int32)).toNatClampNeg (nar .byte (((128 : Int32) ||| ((vc >>> ((12 : Int32) &&& 31)) &&& (63 : Int32))).toInt8.toInt32))) := A33
      refine OGo.on st33 ?_
      show OGo p e below s _ _ _ (T33.setTop (mkF m 132 #[.val (.int vc), .val (.ref ra), .val (.int vo), .val (.int ((vo + (1 : Int32)) + (1 : Int32)))] []))
      refine OGo.on (fun t k => XS.aloadN Xh36.here hx rfl (hb hby d1_132) rfl rfl k) ?_
      show OGo p e below s _ _ _ (T33.setTop (mkF m 133 #[.val (.int vc), .val (.ref ra), .val (.int vo), .val (.int ((vo + (1 : Int32)) + (1 : Int32)))] [(.ref ra)]))
      refine OGo.on (fun t k => XS.iloadN Xh36.here hx rfl (hb hby d1_133) rfl k) ?_
      show OGo p e below s _ _ _ (T33.setTop (mkF m 134 #[.val (.int vc), .val (.ref ra), .val (.int vo), .val (.int ((vo + (1 : Int32)) + (1 : Int32)))] [(.int ((vo + (1 : Int32)) + (1 : Int32))), (.ref ra)]))
      refine OGo.on (fun t k => XS.iinc Xh36.here hx rfl (hb hby d1_134) rfl (l' := #[.val (.int vc), .val (.ref ra), .val (.int vo), .val (.int (((vo + (1 : Int32)) + (1 : Int32)) + (1 : Int32)))]) rfl k) ?_
      show OGo p e below s _ _ _ (T33.setTop (mkF m 137 #[.val (.int vc), .val (.ref ra), .val (.int vo), .val (.int (((vo + (1 : Int32)) + (1 : Int32)) + (1 : Int32)))] [(.int ((vo + (1 : Int32)) + (1 : Int32))), (.ref ra)]))
      refine OGo.on (fun t k => XS.sipush Xh36.here hx rfl (hb hby d1_137) k) ?_
      show OGo p e below s _ _ _ (T33.setTop (mkF m 140 #[.val (.int vc), .val (.ref ra), .val (.int vo), .val (.int (((vo + (1 : Int32)) + (1 : Int32)) + (1 : Int32)))] [(.int (128 : Int32)), (.int ((vo + (1 : Int32)) + (1 : Int32))), (.ref ra)]))
      refine OGo.on (fun t k => XS.iloadN Xh36.here hx rfl (hb hby d1_140) rfl k) ?_
      show OGo p e below s _ _ _ (T33.setTop (mkF m 141 #[.val (.int vc), .val (.ref ra), .val (.int vo), .val (.int (((vo + (1 : Int32)) + (1 : Int32)) + (1 : Int32)))] [(.int vc), (.int (128 : Int32)), (.int ((vo + (1 : Int32)) + (1 : Int32))), (.ref ra)]))
      refine OGo.on (fun t k => XS.bipush Xh36.here hx rfl (hb hby d1_141) k) ?_
      show OGo p e below s _ _ _ (T33.setTop (mkF m 143 #[.val (.int vc), .val (.ref ra), .val (.int vo), .val (.int (((vo + (1 : Int32)) + (1 : Int32)) + (1 : Int32)))] [(.int (6 : Int32)), (.int vc), (.int (128 : Int32)), (.int ((vo + (1 : Int32)) + (1 : Int32))), (.ref ra)]))
      refine OGo.on (fun t k => XS.ishr Xh36.here hx rfl (hb hby d1_143) rfl k) ?_
      show OGo p e below s _ _ _ (T33.setTop (mkF m 144 #[.val (.int vc), .val (.ref ra), .val (.int vo), .val (.int (((vo + (1 : Int32)) + (1 : Int32)) + (1 : Int32)))] [(.int (vc >>> ((6 : Int32) &&& 31))), (.int (128 : Int32)), (.int ((vo + (1 : Int32)) + (1 : Int32))), (.ref ra)]))
      refine OGo.on (fun t k => XS.bipush Xh36.here hx rfl (hb hby d1_144) k) ?_
      show OGo p e below s _ _ _ (T33.setTop (mkF m 146 #[.val (.int vc), .val (.ref ra), .val (.int vo), .val (.int (((vo + (1 : Int32)) + (1 : Int32)) + (1 : Int32)))] [(.int (63 : Int32)), (.int (vc >>> ((6 : Int32) &&& 31))), (.int (128 : Int32)), (.int ((vo + (1 : Int32)) + (1 : Int32))), (.ref ra)]))
      refine OGo.on (fun t k => XS.iand Xh36.here hx rfl (hb hby d1_146) rfl k) ?_
      show OGo p e below s _ _ _ (T33.setTop (mkF m 147 #[.val (.int vc), .val (.ref ra), .val (.int vo), .val (.int (((vo + (1 : Int32)) + (1 : Int32)) + (1 : Int32)))] [(.int ((vc >>> ((6 : Int32) &&& 31)) &&& (63 : Int32))), (.int (128 : Int32)), (.int ((vo + (1 : Int32)) + (1 : Int32))), (.ref ra)]))
      refine OGo.on (fun t k => XS.ior Xh36.here hx rfl (hb hby d1_147) rfl k) ?_
      show OGo p e below s _ _ _ (T33.setTop (mkF m 148 #[.val (.int vc), .val (.ref ra), .val (.int vo), .val (.int (((vo + (1 : Int32)) + (1 : Int32)) + (1 : Int32)))] [(.int ((128 : Int32) ||| ((vc >>> ((6 : Int32) &&& 31)) &&& (63 : Int32)))), (.int ((vo + (1 : Int32)) + (1 : Int32))), (.ref ra)]))
      refine OGo.on (fun t k => XS.i2b Xh36.here hx rfl (hb hby d1_148) rfl k) ?_
      show OGo p e below s _ _ _ (T33.setTop (mkF m 149 #[.val (.int vc), .val (.ref ra), .val (.int vo), .val (.int (((vo + (1 : Int32)) + (1 : Int32)) + (1 : Int32)))] [(.int (((128 : Int32) ||| ((vc >>> ((6 : Int32) &&& 31)) &&& (63 : Int32))).toInt8.toInt32)), (.int ((vo + (1 : Int32)) + (1 : Int32))), (.ref ra)]))
      obtain ⟨T38, h38, X38, e38, W38, A38, st38⟩ := OAL.stB Xh36 hx hZ e33 V33 (j := ((vo + (1 : Int32)) + (1 : Int32))) (x := (((128 : Int32) ||| ((vc >>> ((6 : Int32) &&& 31)) &&& (63 : Int32))).toInt8.toInt32)) (own_x (P := fun o => ¬ ((o + (1 : Int32)) + (1 : Int32)) < 0) ho (by decide)) (by (try simp only [List.length_set]); rw [hl]; exact own_x (P := fun o => ((o + (1 : Int32)) + (1 : Int32)).toNatClampNeg < 8) ho (by decide)) (Ls := #[.val (.int vc), .val (.ref ra), .val (.int vo), .val (.int (((vo + (1 : Int32)) + (1 : Int32)) + (1 : Int32)))]) (rest := []) (hb hby d1_149)
      have Z39 : n0 ≤ h38.size := Nat.le_trans Z34 (Nat.le_of_eq W38.size.symm)
      have N40 := Fr.snoc X38 Nh36 g_ra
      obtain ⟨Lh41, Xh41, Nh41⟩ := own_hide X38 N40
      have K42 : Keep h0 h38 [ra] := K37.wr W38 (Or.inl (List.mem_of_getElem? (i := 0) rfl))
      have V38 : OAL Z h38 ra .byte (((vs.set vo.toNatClampNeg (nar .byte (((240 : Int32) ||| (vc >>> ((18 : Int32) &&& 31))).toInt8.toInt32))).set (vo + (1 : Int32)).toNatClampNeg (nar .byte (((128 : Int32) ||| ((vc >>> ((12 : Int32) &&& 31)) &&& (63 : Int32))).toInt8.toInt32))).set ((vo + (1 : Int32)) + (1 : Int32)).toNatClampNeg (nar .byte (((128 : Int32) ||| ((vc >>> ((6 : Int32) &&& 31)) &&& (63 : Int32))).toInt8.toInt32))) := A38
      refine OGo.on st38 ?_
      show OGo p e below s _ _ _ (T38.setTop (mkF m 150 #[.val (.int vc), .val (.ref ra), .val (.int vo), .val (.int (((vo + (1 : Int32)) + (1 : Int32)) + (1 : Int32)))] []))
      refine OGo.on (fun t k => XS.aloadN Xh41.here hx rfl (hb hby d1_150) rfl rfl k) ?_
      show OGo p e below s _ _ _ (T38.setTop (mkF m 151 #[.val (.int vc), .val (.ref ra), .val (.int vo), .val (.int (((vo + (1 : Int32)) + (1 : Int32)) + (1 : Int32)))] [(.ref ra)]))
      refine OGo.on (fun t k => XS.iloadN Xh41.here hx rfl (hb hby d1_151) rfl k) ?_
      show OGo p e below s _ _ _ (T38.setTop (mkF m 152 #[.val (.int vc), .val (.ref ra), .val (.int vo), .val (.int (((vo + (1 : Int32)) + (1 : Int32)) + (1 : Int32)))] [(.int (((vo + (1 : Int32)) + (1 : Int32)) + (1 : Int32))), (.ref ra)]))
      refine OGo.on (fun t k => XS.iinc Xh41.here hx rfl (hb hby d1_152) rfl (l' := #[.val (.int vc), .val (.ref ra), .val (.int vo), .val (.int ((((vo + (1 : Int32)) + (1 : Int32)) + (1 : Int32)) + (1 : Int32)))]) rfl k) ?_
      show OGo p e below s _ _ _ (T38.setTop (mkF m 155 #[.val (.int vc), .val (.ref ra), .val (.int vo), .val (.int ((((vo + (1 : Int32)) + (1 : Int32)) + (1 : Int32)) + (1 : Int32)))] [(.int (((vo + (1 : Int32)) + (1 : Int32)) + (1 : Int32))), (.ref ra)]))
      refine OGo.on (fun t k => XS.sipush Xh41.here hx rfl (hb hby d1_155) k) ?_
      show OGo p e below s _ _ _ (T38.setTop (mkF m 158 #[.val (.int vc), .val (.ref ra), .val (.int vo), .val (.int ((((vo + (1 : Int32)) + (1 : Int32)) + (1 : Int32)) + (1 : Int32)))] [(.int (128 : Int32)), (.int (((vo + (1 : Int32)) + (1 : Int32)) + (1 : Int32))), (.ref ra)]))
      refine OGo.on (fun t k => XS.iloadN Xh41.here hx rfl (hb hby d1_158) rfl k) ?_
      show OGo p e below s _ _ _ (T38.setTop (mkF m 159 #[.val (.int vc), .val (.ref ra), .val (.int vo), .val (.int ((((vo + (1 : Int32)) + (1 : Int32)) + (1 : Int32)) + (1 : Int32)))] [(.int vc), (.int (128 : Int32)), (.int (((vo + (1 : Int32)) + (1 : Int32)) + (1 : Int32))), (.ref ra)]))
      refine OGo.on (fun t k => XS.bipush Xh41.here hx rfl (hb hby d1_159) k) ?_
      show OGo p e below s _ _ _ (T38.setTop (mkF m 161 #[.val (.int vc), .val (.ref ra), .val (.int vo), .val (.int ((((vo + (1 : Int32)) + (1 : Int32)) + (1 : Int32)) + (1 : Int32)))] [(.int (63 : Int32)), (.int vc), (.int (128 : Int32)), (.int (((vo + (1 : Int32)) + (1 : Int32)) + (1 : Int32))), (.ref ra)]))
      refine OGo.on (fun t k => XS.iand Xh41.here hx rfl (hb hby d1_161) rfl k) ?_
      show OGo p e below s _ _ _ (T38.setTop (mkF m 162 #[.val (.int vc), .val (.ref ra), .val (.int vo), .val (.int ((((vo + (1 : Int32)) + (1 : Int32)) + (1 : Int32)) + (1 : Int32)))] [(.int (vc &&& (63 : Int32))), (.int (128 : Int32)), (.int (((vo + (1 : Int32)) + (1 : Int32)) + (1 : Int32))), (.ref ra)]))
      refine OGo.on (fun t k => XS.ior Xh41.here hx rfl (hb hby d1_162) rfl k) ?_
      show OGo p e below s _ _ _ (T38.setTop (mkF m 163 #[.val (.int vc), .val (.ref ra), .val (.int vo), .val (.int ((((vo + (1 : Int32)) + (1 : Int32)) + (1 : Int32)) + (1 : Int32)))] [(.int ((128 : Int32) ||| (vc &&& (63 : Int32)))), (.int (((vo + (1 : Int32)) + (1 : Int32)) + (1 : Int32))), (.ref ra)]))
      refine OGo.on (fun t k => XS.i2b Xh41.here hx rfl (hb hby d1_163) rfl k) ?_
      show OGo p e below s _ _ _ (T38.setTop (mkF m 164 #[.val (.int vc), .val (.ref ra), .val (.int vo), .val (.int ((((vo + (1 : Int32)) + (1 : Int32)) + (1 : Int32)) + (1 : Int32)))] [(.int (((128 : Int32) ||| (vc &&& (63 : Int32))).toInt8.toInt32)), (.int (((vo + (1 : Int32)) + (1 : Int32)) + (1 : Int32))), (.ref ra)]))
      obtain ⟨T43, h43, X43, e43, W43, A43, st43⟩ := OAL.stB Xh41 hx hZ e38 V38 (j := (((vo + (1 : Int32)) + (1 : Int32)) + (1 : Int32))) (x := (((128 : Int32) ||| (vc &&& (63 : Int32))).toInt8.toInt32)) (own_x (P := fun o => ¬ (((o + (1 : Int32)) + (1 : Int32)) + (1 : Int32)) < 0) ho (by decide)) (by (try simp only [List.length_set]); rw [hl]; exact own_x (P := fun o => (((o + (1 : Int32)) + (1 : Int32)) + (1 : Int32)).toNatClampNeg < 8) ho (by decide)) (Ls := #[.val (.int vc), .val (.ref ra), .val (.int vo), .val (.int ((((vo + (1 : Int32)) + (1 : Int32)) + (1 : Int32)) + (1 : Int32)))]) (rest := []) (hb hby d1_164)
      have Z44 : n0 ≤ h43.size := Nat.le_trans Z39 (Nat.le_of_eq W43.size.symm)
      have N45 := Fr.snoc X43 Nh41 g_ra
      obtain ⟨Lh46, Xh46, Nh46⟩ := own_hide X43 N45
      have K47 : Keep h0 h43 [ra] := K42.wr W43 (Or.inl (List.mem_of_getElem? (i := 0) rfl))
      have V43 : OAL Z h43 ra .byte ((((vs.set vo.toNatClampNeg (nar .byte (((240 : Int32) ||| (vc >>> ((18 : Int32) &&& 31))).toInt8.toInt32))).set (vo + (1 : Int32)).toNatClampNeg (nar .byte (((128 : Int32) ||| ((vc >>> ((12 : Int32) &&& 31)) &&& (63 : Int32))).toInt8.toInt32))).set ((vo + (1 : Int32)) + (1 : Int32)).toNatClampNeg (nar .byte (((128 : Int32) ||| ((vc >>> ((6 : Int32) &&& 31)) &&& (63 : Int32))).toInt8.toInt32))).set (((vo + (1 : Int32)) + (1 : Int32)) + (1 : Int32)).toNatClampNeg (nar .byte (((128 : Int32) ||| (vc &&& (63 : Int32))).toInt8.toInt32))) := A43
      refine OGo.on st43 ?_
      show OGo p e below s _ _ _ (T43.setTop (mkF m 165 #[.val (.int vc), .val (.ref ra), .val (.int vo), .val (.int ((((vo + (1 : Int32)) + (1 : Int32)) + (1 : Int32)) + (1 : Int32)))] []))
      refine OGo.on (fun t k => XS.iloadN Xh46.here hx rfl (hb hby d1_165) rfl k) ?_
      show OGo p e below s _ _ _ (T43.setTop (mkF m 166 #[.val (.int vc), .val (.ref ra), .val (.int vo), .val (.int ((((vo + (1 : Int32)) + (1 : Int32)) + (1 : Int32)) + (1 : Int32)))] [(.int ((((vo + (1 : Int32)) + (1 : Int32)) + (1 : Int32)) + (1 : Int32)))]))
      exact OGo.retI Xh46 hx hret hlk (hb hby d1_166) ⟨congrArg (fun z => some (Value.int z)) (own_end4 hc1 hc12).symm, Nh46, by rw [e43]; exact K47, by rw [e43, own_wr4 hc1 hc12]; exact V43⟩ (by decide) (by decide)
theorem own_pn1 : plainName "com/example/libmsgframe/libmsgframe/Utf8PutBeyondAsciiPinLaw" = true := by first | (simp [plainName, overriddenIn]; done) | decide +kernel
theorem ef_own_mkept (m : MethodId) (x0 : Addr) (x1 : Int32) (x2 : Int32) (x3 : Int32) (x4 : Int32) : entryFrame m #[(.ref x0), (.int x1), (.int x2), (.int x3), (.int x4)] 5 = mkF m 0 #[.val (.ref x0), .val (.int x1), .val (.int x2), .val (.int x3), .val (.int x4)] [] := by first | (simp [entryFrame, mkF, argsToLocals, Value.category]; done) | rfl
theorem d2_0 : decode method_2_code 0 = .ok (.iload_n 1, 1) := by decide +kernel
theorem d2_1 : decode method_2_code 1 = .ok (.iload_n 2, 1) := by decide +kernel
theorem d2_2 : decode method_2_code 2 = .ok (.if_icmp .lt 8, 3) := by decide +kernel
theorem d2_5 : decode method_2_code 5 = .ok (.iload_n 1, 1) := by decide +kernel
theorem d2_6 : decode method_2_code 6 = .ok (.iload_n 3, 1) := by decide +kernel
theorem d2_7 : decode method_2_code 7 = .ok (.if_icmp .lt 11, 3) := by decide +kernel
theorem d2_10 : decode method_2_code 10 = .ok (.aload_n 0, 1) := by decide +kernel
theorem d2_11 : decode method_2_code 11 = .ok (.iload_n 1, 1) := by decide +kernel
theorem d2_12 : decode method_2_code 12 = .ok (.baload, 1) := by decide +kernel
theorem d2_13 : decode method_2_code 13 = .ok (.iload 4, 2) := by decide +kernel
theorem d2_15 : decode method_2_code 15 = .ok (.if_icmp .ne 7, 3) := by decide +kernel
theorem d2_18 : decode method_2_code 18 = .ok (.iconst 1, 1) := by decide +kernel
theorem d2_19 : decode method_2_code 19 = .ok (.goto 4, 3) := by decide +kernel
theorem d2_22 : decode method_2_code 22 = .ok (.iconst 0, 1) := by decide +kernel
theorem d2_23 : decode method_2_code 23 = .ok (.ireturn, 1) := by decide +kernel
set_option maxRecDepth 65536 in
set_option maxHeartbeats 40000000 in
theorem own_mkept (l : Launch) (Z : State) (a0 : Array Value) (hw : ∀ d ∈ tables_1, d.before a0 Z = true) (ws : List Jvm.Cond) (ra : Addr) (vj vfr ven vf w : Int32) (vs : List Int32) (h0 : Heap) (n0 : Nat) (Z0 : n0 ≤ h0.size) (A0 : OAL Z h0 ra .byte vs) (q : OAt vs vj w) :
    MetFree l (⟨"com/example/libmsgframe/libmsgframe/Utf8PutBeyondAsciiPinLaw", "kept", "([BIIIB)Z"⟩ : MethodName) (head1 (Jvm.Cond.code (⟨"com/example/libmsgframe/libmsgframe/Utf8PutBeyondAsciiPinLaw", "kept", "([BIIIB)Z"⟩ : MethodName) method_2_code 5 (some .boolean) :: ws) ({ frames := 0, cells := 0, slots := 0, locals := 0 } : Room)) (fun a U => a = #[(.ref ra), (.int vj), (.int vfr), (.int ven), (.int vf)] ∧ Z.Warmed39 U.vm ∧ U.heap = h0) (fun _ _ _ _ _ => True) (fun _ U o U' => ∃ v L, o = .returned v ∧ (OPure n0 h0 (some (.int (own_kept w vj vfr ven vf)))) v U'.heap L ∧ FrameEnd U o U' L ({ frames := 0, cells := 0, slots := 0, locals := 0 } : Room).cells ({ frames := 0, cells := 0, slots := 0, locals := 0 } : Room).slots) := by
  refine MetFree.of_bodySF (plainFor_of_name own_pn1) hisR ?_
  intro p e s m args below meth c s₁ Bd hml0 hP hK
  obtain ⟨rfl, hZ, hh⟩ := hP
  have hx := Bd.exec
  have hby := Bd.bytes
  have hret := Bd.returns
  have hlk : meth.locks = false := Bd.notSynchronized
  have hml : c.maxLocals = 5 := hml0
  have hown : s.vm.findClass "com/example/libmsgframe/libmsgframe/Utf8PutBeyondAsciiPinLaw" = some m.cls := findClass_of_methodNamed Bd.named
  have hnm := (name_of_methodNamed Bd.named Bd.method).1
  have X0 : Stand p l e ({ frames := 0, cells := 0, slots := 0, locals := 0 } : Room) s m #[(.ref ra), (.int vj), (.int vfr), (.int ven), (.int vf)] below meth c s₁ [] 0 0 := Stand.of_body Bd
  have e0 : s₁.heap = h0 := by rw [← hh, Bd.state]; rfl
  have N0 := Fr.nil n0
  have pre0 : ∀ t, Steps p.tables e below (s₁.setTop (mkF m 0 #[.val (.ref ra), .val (.int vj), .val (.int vfr), .val (.int ven), .val (.int vf)] [])) t → Steps p.tables e below (s₁.setTop (entryFrame m #[(.ref ra), (.int vj), (.int vfr), (.int ven), (.int vf)] 5)) t := fun t k => castTop (ef_own_mkept m ra vj vfr ven vf) k
  show OGo p e below s (OPure n0 h0 (some (.int (own_kept w vj vfr ven vf)))) ({ frames := 0, cells := 0, slots := 0, locals := 0 } : Room).cells ({ frames := 0, cells := 0, slots := 0, locals := 0 } : Room).slots (s₁.setTop (entryFrame m #[(.ref ra), (.int vj), (.int vfr), (.int ven), (.int vf)] 5))
  refine OGo.on pre0 ?_
  show OGo p e below s _ _ _ (s₁.setTop (mkF m 0 #[.val (.ref ra), .val (.int vj), .val (.int vfr), .val (.int ven), .val (.int vf)] []))
  refine OGo.on (fun t k => XS.iloadN X0.here hx rfl (hb hby d2_0) rfl k) ?_
  show OGo p e below s _ _ _ (s₁.setTop (mkF m 1 #[.val (.ref ra), .val (.int vj), .val (.int vfr), .val (.int ven), .val (.int vf)] [(.int vj)]))
  refine OGo.on (fun t k => XS.iloadN X0.here hx rfl (hb hby d2_1) rfl k) ?_
  show OGo p e below s _ _ _ (s₁.setTop (mkF m 2 #[.val (.ref ra), .val (.int vj), .val (.int vfr), .val (.int ven), .val (.int vf)] [(.int vfr), (.int vj)]))
  by_cases hc48 : vj < vfr
  · refine OGo.on (fun t k => XS.icmpYes X0.here hx rfl (pc0 := 2) (pc' := 10) rfl (hb hby d2_2) rfl (tlt hc48).1 (by decide) (by decide) k) ?_
    show OGo p e below s _ _ _ (s₁.setTop (mkF m 10 #[.val (.ref ra), .val (.int vj), .val (.int vfr), .val (.int ven), .val (.int vf)] []))
    refine OGo.on (fun t k => XS.aloadN X0.here hx rfl (hb hby d2_10) rfl rfl k) ?_
    show OGo p e below s _ _ _ (s₁.setTop (mkF m 11 #[.val (.ref ra), .val (.int vj), .val (.int vfr), .val (.int ven), .val (.int vf)] [(.ref ra)]))
    refine OGo.on (fun t k => XS.iloadN X0.here hx rfl (hb hby d2_11) rfl k) ?_
    show OGo p e below s _ _ _ (s₁.setTop (mkF m 12 #[.val (.ref ra), .val (.int vj), .val (.int vfr), .val (.int ven), .val (.int vf)] [(.int vj), (.ref ra)]))
    refine OGo.on (fun t k => OAL.baB X0 hx hZ e0 A0 q (hb hby d2_12) k) ?_
    show OGo p e below s _ _ _ (s₁.setTop (mkF m 13 #[.val (.ref ra), .val (.int vj), .val (.int vfr), .val (.int ven), .val (.int vf)] [(.int w)]))
    refine OGo.on (fun t k => XS.iload X0.here hx rfl (hb hby d2_13) rfl k) ?_
    show OGo p e below s _ _ _ (s₁.setTop (mkF m 15 #[.val (.ref ra), .val (.int vj), .val (.int vfr), .val (.int ven), .val (.int vf)] [(.int vf), (.int w)]))
    by_cases hc49 : w = vf
    · refine OGo.on (fun t k => XS.icmpNo X0.here hx rfl (hb hby d2_15) rfl (teq hc49).2 k) ?_
      show OGo p e below s _ _ _ (s₁.setTop (mkF m 18 #[.val (.ref ra), .val (.int vj), .val (.int vfr), .val (.int ven), .val (.int vf)] []))
      refine OGo.on (fun t k => XS.iconst X0.here hx rfl (hb hby d2_18) k) ?_
      show OGo p e below s _ _ _ (s₁.setTop (mkF m 19 #[.val (.ref ra), .val (.int vj), .val (.int vfr), .val (.int ven), .val (.int vf)] [(.int (1 : Int32))]))
      refine OGo.on (fun t k => XS.goto X0.here hx rfl (pc0 := 19) (pc' := 23) rfl (hb hby d2_19) (by decide) (by decide) k) ?_
      show OGo p e below s _ _ _ (s₁.setTop (mkF m 23 #[.val (.ref ra), .val (.int vj), .val (.int vfr), .val (.int ven), .val (.int vf)] [(.int (1 : Int32))]))
      exact OGo.retN X0 hx (t := .boolean) hret hlk (by simp) (hb hby d2_23) (opI (own_kept1 (Or.inr hc49)) N0 e0) (by decide) (by decide)
    · refine OGo.on (fun t k => XS.icmpYes X0.here hx rfl (pc0 := 15) (pc' := 22) rfl (hb hby d2_15) rfl (feq hc49).2 (by decide) (by decide) k) ?_
      show OGo p e below s _ _ _ (s₁.setTop (mkF m 22 #[.val (.ref ra), .val (.int vj), .val (.int vfr), .val (.int ven), .val (.int vf)] []))
      refine OGo.on (fun t k => XS.iconst X0.here hx rfl (hb hby d2_22) k) ?_
      show OGo p e below s _ _ _ (s₁.setTop (mkF m 23 #[.val (.ref ra), .val (.int vj), .val (.int vfr), .val (.int ven), .val (.int vf)] [(.int (0 : Int32))]))
      exact OGo.retN X0 hx (t := .boolean) hret hlk (by simp) (hb hby d2_23) (opI (own_kept0 (Or.inl hc48) hc49) N0 e0) (by decide) (by decide)
  · refine OGo.on (fun t k => XS.icmpNo X0.here hx rfl (hb hby d2_2) rfl (flt hc48).1 k) ?_
    show OGo p e below s _ _ _ (s₁.setTop (mkF m 5 #[.val (.ref ra), .val (.int vj), .val (.int vfr), .val (.int ven), .val (.int vf)] []))
    refine OGo.on (fun t k => XS.iloadN X0.here hx rfl (hb hby d2_5) rfl k) ?_
    show OGo p e below s _ _ _ (s₁.setTop (mkF m 6 #[.val (.ref ra), .val (.int vj), .val (.int vfr), .val (.int ven), .val (.int vf)] [(.int vj)]))
    refine OGo.on (fun t k => XS.iloadN X0.here hx rfl (hb hby d2_6) rfl k) ?_
    show OGo p e below s _ _ _ (s₁.setTop (mkF m 7 #[.val (.ref ra), .val (.int vj), .val (.int vfr), .val (.int ven), .val (.int vf)] [(.int ven), (.int vj)]))
    by_cases hc50 : vj < ven
    · refine OGo.on (fun t k => XS.icmpYes X0.here hx rfl (pc0 := 7) (pc' := 18) rfl (hb hby d2_7) rfl (tlt hc50).1 (by decide) (by decide) k) ?_
      show OGo p e below s _ _ _ (s₁.setTop (mkF m 18 #[.val (.ref ra), .val (.int vj), .val (.int vfr), .val (.int ven), .val (.int vf)] []))
      refine OGo.on (fun t k => XS.iconst X0.here hx rfl (hb hby d2_18) k) ?_
      show OGo p e below s _ _ _ (s₁.setTop (mkF m 19 #[.val (.ref ra), .val (.int vj), .val (.int vfr), .val (.int ven), .val (.int vf)] [(.int (1 : Int32))]))
      refine OGo.on (fun t k => XS.goto X0.here hx rfl (pc0 := 19) (pc' := 23) rfl (hb hby d2_19) (by decide) (by decide) k) ?_
      show OGo p e below s _ _ _ (s₁.setTop (mkF m 23 #[.val (.ref ra), .val (.int vj), .val (.int vfr), .val (.int ven), .val (.int vf)] [(.int (1 : Int32))]))
      exact OGo.retN X0 hx (t := .boolean) hret hlk (by simp) (hb hby d2_23) (opI (own_kept1 (Or.inl ⟨hc48, hc50⟩)) N0 e0) (by decide) (by decide)
    · refine OGo.on (fun t k => XS.icmpNo X0.here hx rfl (hb hby d2_7) rfl (flt hc50).1 k) ?_
      show OGo p e below s _ _ _ (s₁.setTop (mkF m 10 #[.val (.ref ra), .val (.int vj), .val (.int vfr), .val (.int ven), .val (.int vf)] []))
      refine OGo.on (fun t k => XS.aloadN X0.here hx rfl (hb hby d2_10) rfl rfl k) ?_
      show OGo p e below s _ _ _ (s₁.setTop (mkF m 11 #[.val (.ref ra), .val (.int vj), .val (.int vfr), .val (.int ven), .val (.int vf)] [(.ref ra)]))
      refine OGo.on (fun t k => XS.iloadN X0.here hx rfl (hb hby d2_11) rfl k) ?_
      show OGo p e below s _ _ _ (s₁.setTop (mkF m 12 #[.val (.ref ra), .val (.int vj), .val (.int vfr), .val (.int ven), .val (.int vf)] [(.int vj), (.ref ra)]))
      refine OGo.on (fun t k => OAL.baB X0 hx hZ e0 A0 q (hb hby d2_12) k) ?_
      show OGo p e below s _ _ _ (s₁.setTop (mkF m 13 #[.val (.ref ra), .val (.int vj), .val (.int vfr), .val (.int ven), .val (.int vf)] [(.int w)]))
      refine OGo.on (fun t k => XS.iload X0.here hx rfl (hb hby d2_13) rfl k) ?_
      show OGo p e below s _ _ _ (s₁.setTop (mkF m 15 #[.val (.ref ra), .val (.int vj), .val (.int vfr), .val (.int ven), .val (.int vf)] [(.int vf), (.int w)]))
      by_cases hc51 : w = vf
      · refine OGo.on (fun t k => XS.icmpNo X0.here hx rfl (hb hby d2_15) rfl (teq hc51).2 k) ?_
        show OGo p e below s _ _ _ (s₁.setTop (mkF m 18 #[.val (.ref ra), .val (.int vj), .val (.int vfr), .val (.int ven), .val (.int vf)] []))
        refine OGo.on (fun t k => XS.iconst X0.here hx rfl (hb hby d2_18) k) ?_
        show OGo p e below s _ _ _ (s₁.setTop (mkF m 19 #[.val (.ref ra), .val (.int vj), .val (.int vfr), .val (.int ven), .val (.int vf)] [(.int (1 : Int32))]))
        refine OGo.on (fun t k => XS.goto X0.here hx rfl (pc0 := 19) (pc' := 23) rfl (hb hby d2_19) (by decide) (by decide) k) ?_
        show OGo p e below s _ _ _ (s₁.setTop (mkF m 23 #[.val (.ref ra), .val (.int vj), .val (.int vfr), .val (.int ven), .val (.int vf)] [(.int (1 : Int32))]))
        exact OGo.retN X0 hx (t := .boolean) hret hlk (by simp) (hb hby d2_23) (opI (own_kept1 (Or.inr hc51)) N0 e0) (by decide) (by decide)
      · refine OGo.on (fun t k => XS.icmpYes X0.here hx rfl (pc0 := 15) (pc' := 22) rfl (hb hby d2_15) rfl (feq hc51).2 (by decide) (by decide) k) ?_
        show OGo p e below s _ _ _ (s₁.setTop (mkF m 22 #[.val (.ref ra), .val (.int vj), .val (.int vfr), .val (.int ven), .val (.int vf)] []))
        refine OGo.on (fun t k => XS.iconst X0.here hx rfl (hb hby d2_22) k) ?_
        show OGo p e below s _ _ _ (s₁.setTop (mkF m 23 #[.val (.ref ra), .val (.int vj), .val (.int vfr), .val (.int ven), .val (.int vf)] [(.int (0 : Int32))]))
        exact OGo.retN X0 hx (t := .boolean) hret hlk (by simp) (hb hby d2_23) (opI (own_kept0 (Or.inr hc50) hc51) N0 e0) (by decide) (by decide)
theorem ef_own_mcont (m : MethodId) (x0 : Int32) : entryFrame m #[(.int x0)] 1 = mkF m 0 #[.val (.int x0)] [] := by first | (simp [entryFrame, mkF, argsToLocals, Value.category]; done) | rfl
theorem d3_0 : decode method_3_code 0 = .ok (.iload_n 0, 1) := by decide +kernel
theorem d3_1 : decode method_3_code 1 = .ok (.sipush 192, 3) := by decide +kernel
theorem d3_4 : decode method_3_code 4 = .ok (.iand, 1) := by decide +kernel
theorem d3_5 : decode method_3_code 5 = .ok (.sipush 128, 3) := by decide +kernel
theorem d3_8 : decode method_3_code 8 = .ok (.if_icmp .ne 7, 3) := by decide +kernel
theorem d3_11 : decode method_3_code 11 = .ok (.iconst 1, 1) := by decide +kernel
theorem d3_12 : decode method_3_code 12 = .ok (.goto 4, 3) := by decide +kernel
theorem d3_15 : decode method_3_code 15 = .ok (.iconst 0, 1) := by decide +kernel
theorem d3_16 : decode method_3_code 16 = .ok (.ireturn, 1) := by decide +kernel
set_option maxRecDepth 65536 in
set_option maxHeartbeats 40000000 in
theorem own_mcont (l : Launch) (Z : State) (a0 : Array Value) (hw : ∀ d ∈ tables_1, d.before a0 Z = true) (ws : List Jvm.Cond) (vx : Int32) (h0 : Heap) (n0 : Nat) (Z0 : n0 ≤ h0.size)  :
    MetFree l (⟨"com/example/libmsgframe/libmsgframe/Utf8PutBeyondAsciiPinLaw", "cont", "(I)Z"⟩ : MethodName) (head1 (Jvm.Cond.code (⟨"com/example/libmsgframe/libmsgframe/Utf8PutBeyondAsciiPinLaw", "cont", "(I)Z"⟩ : MethodName) method_3_code 1 (some .boolean) :: ws) ({ frames := 0, cells := 0, slots := 0, locals := 0 } : Room)) (fun a U => a = #[(.int vx)] ∧ Z.Warmed39 U.vm ∧ U.heap = h0) (fun _ _ _ _ _ => True) (fun _ U o U' => ∃ v L, o = .returned v ∧ (OPure n0 h0 (some (.int (own_cont vx)))) v U'.heap L ∧ FrameEnd U o U' L ({ frames := 0, cells := 0, slots := 0, locals := 0 } : Room).cells ({ frames := 0, cells := 0, slots := 0, locals := 0 } : Room).slots) := by
  refine MetFree.of_bodySF (plainFor_of_name own_pn1) hisR ?_
  intro p e s m args below meth c s₁ Bd hml0 hP hK
  obtain ⟨rfl, hZ, hh⟩ := hP
  have hx := Bd.exec
  have hby := Bd.bytes
  have hret := Bd.returns
  have hlk : meth.locks = false := Bd.notSynchronized
  have hml : c.maxLocals = 1 := hml0
  have hown : s.vm.findClass "com/example/libmsgframe/libmsgframe/Utf8PutBeyondAsciiPinLaw" = some m.cls := findClass_of_methodNamed Bd.named
  have hnm := (name_of_methodNamed Bd.named Bd.method).1
  have X0 : Stand p l e ({ frames := 0, cells := 0, slots := 0, locals := 0 } : Room) s m #[(.int vx)] below meth c s₁ [] 0 0 := Stand.of_body Bd
  have e0 : s₁.heap = h0 := by rw [← hh, Bd.state]; rfl
  have N0 := Fr.nil n0
  have pre0 : ∀ t, Steps p.tables e below (s₁.setTop (mkF m 0 #[.val (.int vx)] [])) t → Steps p.tables e below (s₁.setTop (entryFrame m #[(.int vx)] 1)) t := fun t k => castTop (ef_own_mcont m vx) k
  show OGo p e below s (OPure n0 h0 (some (.int (own_cont vx)))) ({ frames := 0, cells := 0, slots := 0, locals := 0 } : Room).cells ({ frames := 0, cells := 0, slots := 0, locals := 0 } : Room).slots (s₁.setTop (entryFrame m #[(.int vx)] 1))
  refine OGo.on pre0 ?_
  show OGo p e below s _ _ _ (s₁.setTop (mkF m 0 #[.val (.int vx)] []))
  refine OGo.on (fun t k => XS.iloadN X0.here hx rfl (hb hby d3_0) rfl k) ?_
  show OGo p e below s _ _ _ (s₁.setTop (mkF m 1 #[.val (.int vx)] [(.int vx)]))
  refine OGo.on (fun t k => XS.sipush X0.here hx rfl (hb hby d3_1) k) ?_
  show OGo p e below s _ _ _ (s₁.setTop (mkF m 4 #[.val (.int vx)] [(.int (192 : Int32)), (.int vx)]))
  refine OGo.on (fun t k => XS.iand X0.here hx rfl (hb hby d3_4) rfl k) ?_
  show OGo p e below s _ _ _ (s₁.setTop (mkF m 5 #[.val (.int vx)] [(.int (vx &&& (192 : Int32)))]))
  refine OGo.on (fun t k => XS.sipush X0.here hx rfl (hb hby d3_5) k) ?_
  show OGo p e below s _ _ _ (s₁.setTop (mkF m 8 #[.val (.int vx)] [(.int (128 : Int32)), (.int (vx &&& (192 : Int32)))]))
  by_cases hc52 : (vx &&& (192 : Int32)) = (128 : Int32)
  · refine OGo.on (fun t k => XS.icmpNo X0.here hx rfl (hb hby d3_8) rfl (teq hc52).2 k) ?_
    show OGo p e below s _ _ _ (s₁.setTop (mkF m 11 #[.val (.int vx)] []))
    refine OGo.on (fun t k => XS.iconst X0.here hx rfl (hb hby d3_11) k) ?_
    show OGo p e below s _ _ _ (s₁.setTop (mkF m 12 #[.val (.int vx)] [(.int (1 : Int32))]))
    refine OGo.on (fun t k => XS.goto X0.here hx rfl (pc0 := 12) (pc' := 16) rfl (hb hby d3_12) (by decide) (by decide) k) ?_
    show OGo p e below s _ _ _ (s₁.setTop (mkF m 16 #[.val (.int vx)] [(.int (1 : Int32))]))
    exact OGo.retN X0 hx (t := .boolean) hret hlk (by simp) (hb hby d3_16) (opI (by rw [own_nz1]; simp [own_cont, hc52]) N0 e0) (by decide) (by decide)
  · refine OGo.on (fun t k => XS.icmpYes X0.here hx rfl (pc0 := 8) (pc' := 15) rfl (hb hby d3_8) rfl (feq hc52).2 (by decide) (by decide) k) ?_
    show OGo p e below s _ _ _ (s₁.setTop (mkF m 15 #[.val (.int vx)] []))
    refine OGo.on (fun t k => XS.iconst X0.here hx rfl (hb hby d3_15) k) ?_
    show OGo p e below s _ _ _ (s₁.setTop (mkF m 16 #[.val (.int vx)] [(.int (0 : Int32))]))
    exact OGo.retN X0 hx (t := .boolean) hret hlk (by simp) (hb hby d3_16) (opI (by rw [own_nz0]; simp [own_cont, hc52]) N0 e0) (by decide) (by decide)
theorem own_pd0 : parseMethodDescriptor "(I[BI)I" = some ⟨[.int, (.array .byte), .int], some .int⟩ := by decide +kernel
theorem own_pd1 : parseMethodDescriptor "([BIIIB)Z" = some ⟨[(.array .byte), .int, .int, .int, .byte], some .boolean⟩ := by decide +kernel
theorem own_pd2 : parseMethodDescriptor "(I)Z" = some ⟨[.int], some .boolean⟩ := by decide +kernel
theorem ef_own_law (m : MethodId) (x0 : Int32) (x1 : Int32) (x2 : Int32) : entryFrame m #[(.int x0), (.int x1), (.int x2)] maxLocals = mkF m 0 #[.val (.int x0), .val (.int x1), .val (.int x2), .unset, .unset, .unset, .unset, .unset, .unset, .unset, .unset, .unset, .unset] [] := by first | (simp [entryFrame, mkF, argsToLocals, Value.category, maxLocals]; done) | rfl
set_option maxRecDepth 65536 in
set_option maxHeartbeats 40000000 in
theorem own_law (l : Launch) (Z : State) (a0 : Array Value) (hw : ∀ d ∈ tables_1, d.before a0 Z = true) (ws : List Jvm.Cond) (va vb vs_ : Int32) (h0 : Heap) (n0 : Nat) (Z0 : n0 ≤ h0.size)  :
    MetFree l x (head1 (Jvm.Cond.code x code maxLocals ret :: ws) room_1) (fun a U => a = #[(.int va), (.int vb), (.int vs_)] ∧ Z.Warmed39 U.vm ∧ U.heap = h0) (fun _ _ _ _ _ => True) (fun _ U o U' => ∃ v L, o = .returned v ∧ (fun v h L => v = some (.int 1) ∧ Fr n0 L) v U'.heap L ∧ FrameEnd U o U' L 16 128) := by
  refine MetFree.of_bodySF (plainFor_of_name own_pn1) hisR ?_
  intro p e s m args below meth c s₁ Bd hml0 hP hK
  obtain ⟨rfl, hZ, hh⟩ := hP
  have hx := Bd.exec
  have hby := Bd.bytes
  have hret := Bd.returns
  have hlk : meth.locks = false := Bd.notSynchronized
  have hml : c.maxLocals = 13 := hml0
  have hown : s.vm.findClass "com/example/libmsgframe/libmsgframe/Utf8PutBeyondAsciiPinLaw" = some m.cls := findClass_of_methodNamed Bd.named
  have hnm := (name_of_methodNamed Bd.named Bd.method).1
  have X0 : Stand p l e room_1 s m #[(.int va), (.int vb), (.int vs_)] below meth c s₁ [] 0 0 := Stand.of_body Bd
  have e0 : s₁.heap = h0 := by rw [← hh, Bd.state]; rfl
  have N0 := Fr.nil n0
  have pre0 : ∀ t, Steps p.tables e below (s₁.setTop (mkF m 0 #[.val (.int va), .val (.int vb), .val (.int vs_), .unset, .unset, .unset, .unset, .unset, .unset, .unset, .unset, .unset, .unset] [])) t → Steps p.tables e below (s₁.setTop (entryFrame m #[(.int va), (.int vb), (.int vs_)] maxLocals)) t := fun t k => castTop (ef_own_law m va vb vs_) k
  show OGo p e below s (fun v h L => v = some (.int 1) ∧ Fr n0 L) 16 128 (s₁.setTop (entryFrame m #[(.int va), (.int vb), (.int vs_)] maxLocals))
  refine OGo.on pre0 ?_
  show OGo p e below s _ _ _ (s₁.setTop (mkF m 0 #[.val (.int va), .val (.int vb), .val (.int vs_), .unset, .unset, .unset, .unset, .unset, .unset, .unset, .unset, .unset, .unset] []))
  refine OGo.on (fun t k => XS.sipush X0.here hx rfl (hb hby at_0) k) ?_
  show OGo p e below s _ _ _ (s₁.setTop (mkF m 3 #[.val (.int va), .val (.int vb), .val (.int vs_), .unset, .unset, .unset, .unset, .unset, .unset, .unset, .unset, .unset, .unset] [(.int (128 : Int32))]))
  refine OGo.on (fun t k => XS.iloadN X0.here hx rfl (hb hby at_3) rfl k) ?_
  show OGo p e below s _ _ _ (s₁.setTop (mkF m 4 #[.val (.int va), .val (.int vb), .val (.int vs_), .unset, .unset, .unset, .unset, .unset, .unset, .unset, .unset, .unset, .unset] [(.int va), (.int (128 : Int32))]))
  refine OGo.on (fun t k => X0.ldcI hx hown (mvT hZ (hw _ (List.mem_of_getElem? (i := 0) rfl))) (g := (mkF m 4 #[.val (.int va), .val (.int vb), .val (.int vs_), .unset, .unset, .unset, .unset, .unset, .unset, .unset, .unset, .unset, .unset] [(.int va), (.int (128 : Int32))])) rfl (hb hby at_4) k) ?_
  show OGo p e below s _ _ _ (s₁.setTop (mkF m 6 #[.val (.int va), .val (.int vb), .val (.int vs_), .unset, .unset, .unset, .unset, .unset, .unset, .unset, .unset, .unset, .unset] [(.int (2147483647 : Int32)), (.int va), (.int (128 : Int32))]))
  refine OGo.on (fun t k => XS.iand X0.here hx rfl (hb hby at_6) rfl k) ?_
  show OGo p e below s _ _ _ (s₁.setTop (mkF m 7 #[.val (.int va), .val (.int vb), .val (.int vs_), .unset, .unset, .unset, .unset, .unset, .unset, .unset, .unset, .unset, .unset] [(.int (va &&& (2147483647 : Int32))), (.int (128 : Int32))]))
  refine OGo.on (fun t k => X0.ldcI hx hown (mvT hZ (hw _ (List.mem_of_getElem? (i := 1) rfl))) (g := (mkF m 7 #[.val (.int va), .val (.int vb), .val (.int vs_), .unset, .unset, .unset, .unset, .unset, .unset, .unset, .unset, .unset, .unset] [(.int (va &&& (2147483647 : Int32))), (.int (128 : Int32))])) rfl (hb hby at_7) k) ?_
  show OGo p e below s _ _ _ (s₁.setTop (mkF m 9 #[.val (.int va), .val (.int vb), .val (.int vs_), .unset, .unset, .unset, .unset, .unset, .unset, .unset, .unset, .unset, .unset] [(.int (1113984 : Int32)), (.int (va &&& (2147483647 : Int32))), (.int (128 : Int32))]))
  refine OGo.on (fun t k => iremM X0 hx rfl (hb hby at_9) rfl (by decide) k) ?_
  show OGo p e below s _ _ _ (s₁.setTop (mkF m 10 #[.val (.int va), .val (.int vb), .val (.int vs_), .unset, .unset, .unset, .unset, .unset, .unset, .unset, .unset, .unset, .unset] [(.int ((va &&& (2147483647 : Int32)) % (1113984 : Int32))), (.int (128 : Int32))]))
  refine OGo.on (fun t k => XS.iadd X0.here hx rfl (hb hby at_10) rfl k) ?_
  show OGo p e below s _ _ _ (s₁.setTop (mkF m 11 #[.val (.int va), .val (.int vb), .val (.int vs_), .unset, .unset, .unset, .unset, .unset, .unset, .unset, .unset, .unset, .unset] [(.int ((128 : Int32) + ((va &&& (2147483647 : Int32)) % (1113984 : Int32))))]))
  refine OGo.on (fun t k => XS.istoreN X0.here hx rfl (hb hby at_11) rfl (l' := #[.val (.int va), .val (.int vb), .val (.int vs_), .val (.int ((128 : Int32) + ((va &&& (2147483647 : Int32)) % (1113984 : Int32)))), .unset, .unset, .unset, .unset, .unset, .unset, .unset, .unset, .unset]) rfl k) ?_
  show OGo p e below s _ _ _ (s₁.setTop (mkF m 12 #[.val (.int va), .val (.int vb), .val (.int vs_), .val (.int ((128 : Int32) + ((va &&& (2147483647 : Int32)) % (1113984 : Int32)))), .unset, .unset, .unset, .unset, .unset, .unset, .unset, .unset, .unset] []))
  generalize hv_vc : ((128 : Int32) + ((va &&& (2147483647 : Int32)) % (1113984 : Int32))) = vc
  show OGo p e below s _ _ _ (s₁.setTop (mkF m 12 #[.val (.int va), .val (.int vb), .val (.int vs_), .val (.int vc), .unset, .unset, .unset, .unset, .unset, .unset, .unset, .unset, .unset] []))
  refine OGo.on (fun t k => XS.iloadN X0.here hx rfl (hb hby at_12) rfl k) ?_
  show OGo p e below s _ _ _ (s₁.setTop (mkF m 13 #[.val (.int va), .val (.int vb), .val (.int vs_), .val (.int vc), .unset, .unset, .unset, .unset, .unset, .unset, .unset, .unset, .unset] [(.int vb)]))
  refine OGo.on (fun t k => XS.iconst X0.here hx rfl (hb hby at_13) k) ?_
  show OGo p e below s _ _ _ (s₁.setTop (mkF m 14 #[.val (.int va), .val (.int vb), .val (.int vs_), .val (.int vc), .unset, .unset, .unset, .unset, .unset, .unset, .unset, .unset, .unset] [(.int (3 : Int32)), (.int vb)]))
  refine OGo.on (fun t k => XS.iand X0.here hx rfl (hb hby at_14) rfl k) ?_
  show OGo p e below s _ _ _ (s₁.setTop (mkF m 15 #[.val (.int va), .val (.int vb), .val (.int vs_), .val (.int vc), .unset, .unset, .unset, .unset, .unset, .unset, .unset, .unset, .unset] [(.int (vb &&& (3 : Int32)))]))
  refine OGo.on (fun t k => XS.istore X0.here hx rfl (hb hby at_15) rfl (l' := #[.val (.int va), .val (.int vb), .val (.int vs_), .val (.int vc), .val (.int (vb &&& (3 : Int32))), .unset, .unset, .unset, .unset, .unset, .unset, .unset, .unset]) rfl k) ?_
  show OGo p e below s _ _ _ (s₁.setTop (mkF m 17 #[.val (.int va), .val (.int vb), .val (.int vs_), .val (.int vc), .val (.int (vb &&& (3 : Int32))), .unset, .unset, .unset, .unset, .unset, .unset, .unset, .unset] []))
  generalize hv_vo : (vb &&& (3 : Int32)) = vo
  show OGo p e below s _ _ _ (s₁.setTop (mkF m 17 #[.val (.int va), .val (.int vb), .val (.int vs_), .val (.int vc), .val (.int vo), .unset, .unset, .unset, .unset, .unset, .unset, .unset, .unset] []))
  refine OGo.on (fun t k => XS.iloadN X0.here hx rfl (hb hby at_17) rfl k) ?_
  show OGo p e below s _ _ _ (s₁.setTop (mkF m 18 #[.val (.int va), .val (.int vb), .val (.int vs_), .val (.int vc), .val (.int vo), .unset, .unset, .unset, .unset, .unset, .unset, .unset, .unset] [(.int vs_)]))
  refine OGo.on (fun t k => XS.i2b X0.here hx rfl (hb hby at_18) rfl k) ?_
  show OGo p e below s _ _ _ (s₁.setTop (mkF m 19 #[.val (.int va), .val (.int vb), .val (.int vs_), .val (.int vc), .val (.int vo), .unset, .unset, .unset, .unset, .unset, .unset, .unset, .unset] [(.int (vs_.toInt8.toInt32))]))
  refine OGo.on (fun t k => XS.istore X0.here hx rfl (hb hby at_19) rfl (l' := #[.val (.int va), .val (.int vb), .val (.int vs_), .val (.int vc), .val (.int vo), .val (.int (vs_.toInt8.toInt32)), .unset, .unset, .unset, .unset, .unset, .unset, .unset]) rfl k) ?_
  show OGo p e below s _ _ _ (s₁.setTop (mkF m 21 #[.val (.int va), .val (.int vb), .val (.int vs_), .val (.int vc), .val (.int vo), .val (.int (vs_.toInt8.toInt32)), .unset, .unset, .unset, .unset, .unset, .unset, .unset] []))
  generalize hv_vf : (vs_.toInt8.toInt32) = vf
  show OGo p e below s _ _ _ (s₁.setTop (mkF m 21 #[.val (.int va), .val (.int vb), .val (.int vs_), .val (.int vc), .val (.int vo), .val (.int vf), .unset, .unset, .unset, .unset, .unset, .unset, .unset] []))
  have ho : ∃ n : Fin 4, vo = Int32.ofNat n.val := by rw [← hv_vo]; exact own_and3 _
  have hcd : 128 ≤ n32 vc ∧ n32 vc < 1114112 := by rw [← hv_vc]; exact own_code _
  have hf : nar .byte vf = vf := by rw [← hv_vf]; exact own_nf _
  refine OGo.on (fun t k => XS.bipush X0.here hx rfl (hb hby at_21) k) ?_
  show OGo p e below s _ _ _ (s₁.setTop (mkF m 23 #[.val (.int va), .val (.int vb), .val (.int vs_), .val (.int vc), .val (.int vo), .val (.int vf), .unset, .unset, .unset, .unset, .unset, .unset, .unset] [(.int (8 : Int32))]))
  obtain ⟨T53, h53, k53, X53, e53, E53, A53, st53⟩ := newP X0 hx hZ (hw _ (List.mem_of_getElem? (i := 2) rfl)) e0 (g := (mkF m 23 #[.val (.int va), .val (.int vb), .val (.int vs_), .val (.int vc), .val (.int vo), .val (.int vf), .unset, .unset, .unset, .unset, .unset, .unset, .unset] [(.int (8 : Int32))])) rfl (hb hby at_23) rfl (by decide) (cap := 8) (by decide) (by decide) (by decide) (by decide)
  obtain ⟨b53, g53⟩ : ∃ z, z = h0.size := ⟨_, rfl⟩
  rw [← g53] at A53 st53
  have ge54 : n0 ≤ b53 := Nat.le_trans Z0 (Nat.le_of_eq g53.symm)
  have Z55 : n0 ≤ h53.size := Nat.le_trans Z0 E53.1
  have V53 : OAL Z h53 b53 .byte [(0 : Int32), (0 : Int32), (0 : Int32), (0 : Int32), (0 : Int32), (0 : Int32), (0 : Int32), (0 : Int32)] := OAL.new A53 rfl
  refine OGo.on st53 ?_
  show OGo p e below s _ _ _ (T53.setTop (mkF m 25 #[.val (.int va), .val (.int vb), .val (.int vs_), .val (.int vc), .val (.int vo), .val (.int vf), .unset, .unset, .unset, .unset, .unset, .unset, .unset] [(.ref b53)]))
  refine OGo.on (fun t k => XS.astore X53.here hx rfl (hb hby at_25) rfl rfl (l' := #[.val (.int va), .val (.int vb), .val (.int vs_), .val (.int vc), .val (.int vo), .val (.int vf), .val (.ref b53), .unset, .unset, .unset, .unset, .unset, .unset]) rfl k) ?_
  show OGo p e below s _ _ _ (T53.setTop (mkF m 27 #[.val (.int va), .val (.int vb), .val (.int vs_), .val (.int vc), .val (.int vo), .val (.int vf), .val (.ref b53), .unset, .unset, .unset, .unset, .unset, .unset] []))
  refine OGo.on (fun t k => XS.aload X53.here hx rfl (hb hby at_27) rfl rfl k) ?_
  show OGo p e below s _ _ _ (T53.setTop (mkF m 29 #[.val (.int va), .val (.int vb), .val (.int vs_), .val (.int vc), .val (.int vo), .val (.int vf), .val (.ref b53), .unset, .unset, .unset, .unset, .unset, .unset] [(.ref b53)]))
  refine OGo.on (fun t k => XS.iconst X53.here hx rfl (hb hby at_29) k) ?_
  show OGo p e below s _ _ _ (T53.setTop (mkF m 30 #[.val (.int va), .val (.int vb), .val (.int vs_), .val (.int vc), .val (.int vo), .val (.int vf), .val (.ref b53), .unset, .unset, .unset, .unset, .unset, .unset] [(.int (0 : Int32)), (.ref b53)]))
  refine OGo.on (fun t k => XS.iload X53.here hx rfl (hb hby at_30) rfl k) ?_
  show OGo p e below s _ _ _ (T53.setTop (mkF m 32 #[.val (.int va), .val (.int vb), .val (.int vs_), .val (.int vc), .val (.int vo), .val (.int vf), .val (.ref b53), .unset, .unset, .unset, .unset, .unset, .unset] [(.int vf), (.int (0 : Int32)), (.ref b53)]))
  obtain ⟨T56, h56, X56, e56, W56, A56, st56⟩ := OAL.stB X53 hx hZ e53 V53 (j := (0 : Int32)) (x := vf) (by decide) (by decide : 0 < 8) (Ls := #[.val (.int va), .val (.int vb), .val (.int vs_), .val (.int vc), .val (.int vo), .val (.int vf), .val (.ref b53), .unset, .unset, .unset, .unset, .unset, .unset]) (rest := []) (hb hby at_32)
  have Z57 : n0 ≤ h56.size := Nat.le_trans Z55 (Nat.le_of_eq W56.size.symm)
  have N58 := Fr.snoc X56 N0 ge54
  obtain ⟨Lh59, Xh59, Nh59⟩ := own_hide X56 N58
  have V56 : OAL Z h56 b53 .byte [(nar .byte vf), (0 : Int32), (0 : Int32), (0 : Int32), (0 : Int32), (0 : Int32), (0 : Int32), (0 : Int32)] := A56
  refine OGo.on st56 ?_
  show OGo p e below s _ _ _ (T56.setTop (mkF m 33 #[.val (.int va), .val (.int vb), .val (.int vs_), .val (.int vc), .val (.int vo), .val (.int vf), .val (.ref b53), .unset, .unset, .unset, .unset, .unset, .unset] []))
  refine OGo.on (fun t k => XS.aload Xh59.here hx rfl (hb hby at_33) rfl rfl k) ?_
  show OGo p e below s _ _ _ (T56.setTop (mkF m 35 #[.val (.int va), .val (.int vb), .val (.int vs_), .val (.int vc), .val (.int vo), .val (.int vf), .val (.ref b53), .unset, .unset, .unset, .unset, .unset, .unset] [(.ref b53)]))
  refine OGo.on (fun t k => XS.iconst Xh59.here hx rfl (hb hby at_35) k) ?_
  show OGo p e below s _ _ _ (T56.setTop (mkF m 36 #[.val (.int va), .val (.int vb), .val (.int vs_), .val (.int vc), .val (.int vo), .val (.int vf), .val (.ref b53), .unset, .unset, .unset, .unset, .unset, .unset] [(.int (1 : Int32)), (.ref b53)]))
  refine OGo.on (fun t k => XS.iload Xh59.here hx rfl (hb hby at_36) rfl k) ?_
  show OGo p e below s _ _ _ (T56.setTop (mkF m 38 #[.val (.int va), .val (.int vb), .val (.int vs_), .val (.int vc), .val (.int vo), .val (.int vf), .val (.ref b53), .unset, .unset, .unset, .unset, .unset, .unset] [(.int vf), (.int (1 : Int32)), (.ref b53)]))
  obtain ⟨T60, h60, X60, e60, W60, A60, st60⟩ := OAL.stB Xh59 hx hZ e56 V56 (j := (1 : Int32)) (x := vf) (by decide) (by decide : 1 < 8) (Ls := #[.val (.int va), .val (.int vb), .val (.int vs_), .val (.int vc), .val (.int vo), .val (.int vf), .val (.ref b53), .unset, .unset, .unset, .unset, .unset, .unset]) (rest := []) (hb hby at_38)
  have Z61 : n0 ≤ h60.size := Nat.le_trans Z57 (Nat.le_of_eq W60.size.symm)
  have N62 := Fr.snoc X60 Nh59 ge54
  obtain ⟨Lh63, Xh63, Nh63⟩ := own_hide X60 N62
  have V60 : OAL Z h60 b53 .byte [(nar .byte vf), (nar .byte vf), (0 : Int32), (0 : Int32), (0 : Int32), (0 : Int32), (0 : Int32), (0 : Int32)] := A60
  refine OGo.on st60 ?_
  show OGo p e below s _ _ _ (T60.setTop (mkF m 39 #[.val (.int va), .val (.int vb), .val (.int vs_), .val (.int vc), .val (.int vo), .val (.int vf), .val (.ref b53), .unset, .unset, .unset, .unset, .unset, .unset] []))
  refine OGo.on (fun t k => XS.aload Xh63.here hx rfl (hb hby at_39) rfl rfl k) ?_
  show OGo p e below s _ _ _ (T60.setTop (mkF m 41 #[.val (.int va), .val (.int vb), .val (.int vs_), .val (.int vc), .val (.int vo), .val (.int vf), .val (.ref b53), .unset, .unset, .unset, .unset, .unset, .unset] [(.ref b53)]))
  refine OGo.on (fun t k => XS.iconst Xh63.here hx rfl (hb hby at_41) k) ?_
  show OGo p e below s _ _ _ (T60.setTop (mkF m 42 #[.val (.int va), .val (.int vb), .val (.int vs_), .val (.int vc), .val (.int vo), .val (.int vf), .val (.ref b53), .unset, .unset, .unset, .unset, .unset, .unset] [(.int (2 : Int32)), (.ref b53)]))
  refine OGo.on (fun t k => XS.iload Xh63.here hx rfl (hb hby at_42) rfl k) ?_
  show OGo p e below s _ _ _ (T60.setTop (mkF m 44 #[.val (.int va), .val (.int vb), .val (.int vs_), .val (.int vc), .val (.int vo), .val (.int vf), .val (.ref b53), .unset, .unset, .unset, .unset, .unset, .unset] [(.int vf), (.int (2 : Int32)), (.ref b53)]))
  obtain ⟨T64, h64, X64, e64, W64, A64, st64⟩ := OAL.stB Xh63 hx hZ e60 V60 (j := (2 : Int32)) (x := vf) (by decide) (by decide : 2 < 8) (Ls := #[.val (.int va), .val (.int vb), .val (.int vs_), .val (.int vc), .val (.int vo), .val (.int vf), .val (.ref b53), .unset, .unset, .unset, .unset, .unset, .unset]) (rest := []) (hb hby at_44)
  have Z65 : n0 ≤ h64.size := Nat.le_trans Z61 (Nat.le_of_eq W64.size.symm)
  have N66 := Fr.snoc X64 Nh63 ge54
  obtain ⟨Lh67, Xh67, Nh67⟩ := own_hide X64 N66
  have V64 : OAL Z h64 b53 .byte [(nar .byte vf), (nar .byte vf), (nar .byte vf), (0 : Int32), (0 : Int32), (0 : Int32), (0 : Int32), (0 : Int32)] := A64
  refine OGo.on st64 ?_
  show OGo p e below s _ _ _ (T64.setTop (mkF m 45 #[.val (.int va), .val (.int vb), .val (.int vs_), .val (.int vc), .val (.int vo), .val (.int vf), .val (.ref b53), .unset, .unset, .unset, .unset, .unset, .unset] []))
  refine OGo.on (fun t k => XS.aload Xh67.here hx rfl (hb hby at_45) rfl rfl k) ?_
  show OGo p e below s _ _ _ (T64.setTop (mkF m 47 #[.val (.int va), .val (.int vb), .val (.int vs_), .val (.int vc), .val (.int vo), .val (.int vf), .val (.ref b53), .unset, .unset, .unset, .unset, .unset, .unset] [(.ref b53)]))
  refine OGo.on (fun t k => XS.iconst Xh67.here hx rfl (hb hby at_47) k) ?_
  show OGo p e below s _ _ _ (T64.setTop (mkF m 48 #[.val (.int va), .val (.int vb), .val (.int vs_), .val (.int vc), .val (.int vo), .val (.int vf), .val (.ref b53), .unset, .unset, .unset, .unset, .unset, .unset] [(.int (3 : Int32)), (.ref b53)]))
  refine OGo.on (fun t k => XS.iload Xh67.here hx rfl (hb hby at_48) rfl k) ?_
  show OGo p e below s _ _ _ (T64.setTop (mkF m 50 #[.val (.int va), .val (.int vb), .val (.int vs_), .val (.int vc), .val (.int vo), .val (.int vf), .val (.ref b53), .unset, .unset, .unset, .unset, .unset, .unset] [(.int vf), (.int (3 : Int32)), (.ref b53)]))
  obtain ⟨T68, h68, X68, e68, W68, A68, st68⟩ := OAL.stB Xh67 hx hZ e64 V64 (j := (3 : Int32)) (x := vf) (by decide) (by decide : 3 < 8) (Ls := #[.val (.int va), .val (.int vb), .val (.int vs_), .val (.int vc), .val (.int vo), .val (.int vf), .val (.ref b53), .unset, .unset, .unset, .unset, .unset, .unset]) (rest := []) (hb hby at_50)
  have Z69 : n0 ≤ h68.size := Nat.le_trans Z65 (Nat.le_of_eq W68.size.symm)
  have N70 := Fr.snoc X68 Nh67 ge54
  obtain ⟨Lh71, Xh71, Nh71⟩ := own_hide X68 N70
  have V68 : OAL Z h68 b53 .byte [(nar .byte vf), (nar .byte vf), (nar .byte vf), (nar .byte vf), (0 : Int32), (0 : Int32), (0 : Int32), (0 : Int32)] := A68
  refine OGo.on st68 ?_
  show OGo p e below s _ _ _ (T68.setTop (mkF m 51 #[.val (.int va), .val (.int vb), .val (.int vs_), .val (.int vc), .val (.int vo), .val (.int vf), .val (.ref b53), .unset, .unset, .unset, .unset, .unset, .unset] []))
  refine OGo.on (fun t k => XS.aload Xh71.here hx rfl (hb hby at_51) rfl rfl k) ?_
  show OGo p e below s _ _ _ (T68.setTop (mkF m 53 #[.val (.int va), .val (.int vb), .val (.int vs_), .val (.int vc), .val (.int vo), .val (.int vf), .val (.ref b53), .unset, .unset, .unset, .unset, .unset, .unset] [(.ref b53)]))
  refine OGo.on (fun t k => XS.iconst Xh71.here hx rfl (hb hby at_53) k) ?_
  show OGo p e below s _ _ _ (T68.setTop (mkF m 54 #[.val (.int va), .val (.int vb), .val (.int vs_), .val (.int vc), .val (.int vo), .val (.int vf), .val (.ref b53), .unset, .unset, .unset, .unset, .unset, .unset] [(.int (4 : Int32)), (.ref b53)]))
  refine OGo.on (fun t k => XS.iload Xh71.here hx rfl (hb hby at_54) rfl k) ?_
  show OGo p e below s _ _ _ (T68.setTop (mkF m 56 #[.val (.int va), .val (.int vb), .val (.int vs_), .val (.int vc), .val (.int vo), .val (.int vf), .val (.ref b53), .unset, .unset, .unset, .unset, .unset, .unset] [(.int vf), (.int (4 : Int32)), (.ref b53)]))
  obtain ⟨T72, h72, X72, e72, W72, A72, st72⟩ := OAL.stB Xh71 hx hZ e68 V68 (j := (4 : Int32)) (x := vf) (by decide) (by decide : 4 < 8) (Ls := #[.val (.int va), .val (.int vb), .val (.int vs_), .val (.int vc), .val (.int vo), .val (.int vf), .val (.ref b53), .unset, .unset, .unset, .unset, .unset, .unset]) (rest := []) (hb hby at_56)
  have Z73 : n0 ≤ h72.size := Nat.le_trans Z69 (Nat.le_of_eq W72.size.symm)
  have N74 := Fr.snoc X72 Nh71 ge54
  obtain ⟨Lh75, Xh75, Nh75⟩ := own_hide X72 N74
  have V72 : OAL Z h72 b53 .byte [(nar .byte vf), (nar .byte vf), (nar .byte vf), (nar .byte vf), (nar .byte vf), (0 : Int32), (0 : Int32), (0 : Int32)] := A72
  refine OGo.on st72 ?_
  show OGo p e below s _ _ _ (T72.setTop (mkF m 57 #[.val (.int va), .val (.int vb), .val (.int vs_), .val (.int vc), .val (.int vo), .val (.int vf), .val (.ref b53), .unset, .unset, .unset, .unset, .unset, .unset] []))
  refine OGo.on (fun t k => XS.aload Xh75.here hx rfl (hb hby at_57) rfl rfl k) ?_
  show OGo p e below s _ _ _ (T72.setTop (mkF m 59 #[.val (.int va), .val (.int vb), .val (.int vs_), .val (.int vc), .val (.int vo), .val (.int vf), .val (.ref b53), .unset, .unset, .unset, .unset, .unset, .unset] [(.ref b53)]))
  refine OGo.on (fun t k => XS.iconst Xh75.here hx rfl (hb hby at_59) k) ?_
  show OGo p e below s _ _ _ (T72.setTop (mkF m 60 #[.val (.int va), .val (.int vb), .val (.int vs_), .val (.int vc), .val (.int vo), .val (.int vf), .val (.ref b53), .unset, .unset, .unset, .unset, .unset, .unset] [(.int (5 : Int32)), (.ref b53)]))
  refine OGo.on (fun t k => XS.iload Xh75.here hx rfl (hb hby at_60) rfl k) ?_
  show OGo p e below s _ _ _ (T72.setTop (mkF m 62 #[.val (.int va), .val (.int vb), .val (.int vs_), .val (.int vc), .val (.int vo), .val (.int vf), .val (.ref b53), .unset, .unset, .unset, .unset, .unset, .unset] [(.int vf), (.int (5 : Int32)), (.ref b53)]))
  obtain ⟨T76, h76, X76, e76, W76, A76, st76⟩ := OAL.stB Xh75 hx hZ e72 V72 (j := (5 : Int32)) (x := vf) (by decide) (by decide : 5 < 8) (Ls := #[.val (.int va), .val (.int vb), .val (.int vs_), .val (.int vc), .val (.int vo), .val (.int vf), .val (.ref b53), .unset, .unset, .unset, .unset, .unset, .unset]) (rest := []) (hb hby at_62)
  have Z77 : n0 ≤ h76.size := Nat.le_trans Z73 (Nat.le_of_eq W76.size.symm)
  have N78 := Fr.snoc X76 Nh75 ge54
  obtain ⟨Lh79, Xh79, Nh79⟩ := own_hide X76 N78
  have V76 : OAL Z h76 b53 .byte [(nar .byte vf), (nar .byte vf), (nar .byte vf), (nar .byte vf), (nar .byte vf), (nar .byte vf), (0 : Int32), (0 : Int32)] := A76
  refine OGo.on st76 ?_
  show OGo p e below s _ _ _ (T76.setTop (mkF m 63 #[.val (.int va), .val (.int vb), .val (.int vs_), .val (.int vc), .val (.int vo), .val (.int vf), .val (.ref b53), .unset, .unset, .unset, .unset, .unset, .unset] []))
  refine OGo.on (fun t k => XS.aload Xh79.here hx rfl (hb hby at_63) rfl rfl k) ?_
  show OGo p e below s _ _ _ (T76.setTop (mkF m 65 #[.val (.int va), .val (.int vb), .val (.int vs_), .val (.int vc), .val (.int vo), .val (.int vf), .val (.ref b53), .unset, .unset, .unset, .unset, .unset, .unset] [(.ref b53)]))
  refine OGo.on (fun t k => XS.bipush Xh79.here hx rfl (hb hby at_65) k) ?_
  show OGo p e below s _ _ _ (T76.setTop (mkF m 67 #[.val (.int va), .val (.int vb), .val (.int vs_), .val (.int vc), .val (.int vo), .val (.int vf), .val (.ref b53), .unset, .unset, .unset, .unset, .unset, .unset] [(.int (6 : Int32)), (.ref b53)]))
  refine OGo.on (fun t k => XS.iload Xh79.here hx rfl (hb hby at_67) rfl k) ?_
  show OGo p e below s _ _ _ (T76.setTop (mkF m 69 #[.val (.int va), .val (.int vb), .val (.int vs_), .val (.int vc), .val (.int vo), .val (.int vf), .val (.ref b53), .unset, .unset, .unset, .unset, .unset, .unset] [(.int vf), (.int (6 : Int32)), (.ref b53)]))
  obtain ⟨T80, h80, X80, e80, W80, A80, st80⟩ := OAL.stB Xh79 hx hZ e76 V76 (j := (6 : Int32)) (x := vf) (by decide) (by decide : 6 < 8) (Ls := #[.val (.int va), .val (.int vb), .val (.int vs_), .val (.int vc), .val (.int vo), .val (.int vf), .val (.ref b53), .unset, .unset, .unset, .unset, .unset, .unset]) (rest := []) (hb hby at_69)
  have Z81 : n0 ≤ h80.size := Nat.le_trans Z77 (Nat.le_of_eq W80.size.symm)
  have N82 := Fr.snoc X80 Nh79 ge54
  obtain ⟨Lh83, Xh83, Nh83⟩ := own_hide X80 N82
  have V80 : OAL Z h80 b53 .byte [(nar .byte vf), (nar .byte vf), (nar .byte vf), (nar .byte vf), (nar .byte vf), (nar .byte vf), (nar .byte vf), (0 : Int32)] := A80
  refine OGo.on st80 ?_
  show OGo p e below s _ _ _ (T80.setTop (mkF m 70 #[.val (.int va), .val (.int vb), .val (.int vs_), .val (.int vc), .val (.int vo), .val (.int vf), .val (.ref b53), .unset, .unset, .unset, .unset, .unset, .unset] []))
  refine OGo.on (fun t k => XS.aload Xh83.here hx rfl (hb hby at_70) rfl rfl k) ?_
  show OGo p e below s _ _ _ (T80.setTop (mkF m 72 #[.val (.int va), .val (.int vb), .val (.int vs_), .val (.int vc), .val (.int vo), .val (.int vf), .val (.ref b53), .unset, .unset, .unset, .unset, .unset, .unset] [(.ref b53)]))
  refine OGo.on (fun t k => XS.bipush Xh83.here hx rfl (hb hby at_72) k) ?_
  show OGo p e below s _ _ _ (T80.setTop (mkF m 74 #[.val (.int va), .val (.int vb), .val (.int vs_), .val (.int vc), .val (.int vo), .val (.int vf), .val (.ref b53), .unset, .unset, .unset, .unset, .unset, .unset] [(.int (7 : Int32)), (.ref b53)]))
  refine OGo.on (fun t k => XS.iload Xh83.here hx rfl (hb hby at_74) rfl k) ?_
  show OGo p e below s _ _ _ (T80.setTop (mkF m 76 #[.val (.int va), .val (.int vb), .val (.int vs_), .val (.int vc), .val (.int vo), .val (.int vf), .val (.ref b53), .unset, .unset, .unset, .unset, .unset, .unset] [(.int vf), (.int (7 : Int32)), (.ref b53)]))
  obtain ⟨T84, h84, X84, e84, W84, A84, st84⟩ := OAL.stB Xh83 hx hZ e80 V80 (j := (7 : Int32)) (x := vf) (by decide) (by decide : 7 < 8) (Ls := #[.val (.int va), .val (.int vb), .val (.int vs_), .val (.int vc), .val (.int vo), .val (.int vf), .val (.ref b53), .unset, .unset, .unset, .unset, .unset, .unset]) (rest := []) (hb hby at_76)
  have Z85 : n0 ≤ h84.size := Nat.le_trans Z81 (Nat.le_of_eq W84.size.symm)
  have N86 := Fr.snoc X84 Nh83 ge54
  obtain ⟨Lh87, Xh87, Nh87⟩ := own_hide X84 N86
  have V84 : OAL Z h84 b53 .byte [(nar .byte vf), (nar .byte vf), (nar .byte vf), (nar .byte vf), (nar .byte vf), (nar .byte vf), (nar .byte vf), (nar .byte vf)] := A84
  refine OGo.on st84 ?_
  show OGo p e below s _ _ _ (T84.setTop (mkF m 77 #[.val (.int va), .val (.int vb), .val (.int vs_), .val (.int vc), .val (.int vo), .val (.int vf), .val (.ref b53), .unset, .unset, .unset, .unset, .unset, .unset] []))
  refine OGo.on (fun t k => XS.iloadN Xh87.here hx rfl (hb hby at_77) rfl k) ?_
  show OGo p e below s _ _ _ (T84.setTop (mkF m 78 #[.val (.int va), .val (.int vb), .val (.int vs_), .val (.int vc), .val (.int vo), .val (.int vf), .val (.ref b53), .unset, .unset, .unset, .unset, .unset, .unset] [(.int vc)]))
  refine OGo.on (fun t k => XS.aload Xh87.here hx rfl (hb hby at_78) rfl rfl k) ?_
  show OGo p e below s _ _ _ (T84.setTop (mkF m 80 #[.val (.int va), .val (.int vb), .val (.int vs_), .val (.int vc), .val (.int vo), .val (.int vf), .val (.ref b53), .unset, .unset, .unset, .unset, .unset, .unset] [(.ref b53), (.int vc)]))
  refine OGo.on (fun t k => XS.iload Xh87.here hx rfl (hb hby at_80) rfl k) ?_
  show OGo p e below s _ _ _ (T84.setTop (mkF m 82 #[.val (.int va), .val (.int vb), .val (.int vs_), .val (.int vc), .val (.int vo), .val (.int vf), .val (.ref b53), .unset, .unset, .unset, .unset, .unset, .unset] [(.int vo), (.ref b53), (.int vc)]))
  have V88 : OAL Z h84 b53 .byte [vf, vf, vf, vf, vf, vf, vf, vf] := by have q := V84; rw [hf] at q; exact q
  obtain ⟨_, _, ⟨T88, L88, k88, n88⟩, -, X88, ⟨Lc88, hQ88, l88, y88, z88⟩, st88⟩ := Jvm.LawKit.callS Xh87 hx (y := (⟨"com/example/libmsgframe/libmsgframe/Utf8", "putBeyondAscii", "(I[BI)I"⟩ : MethodName)) hown (mvT hZ (hw _ (List.mem_of_getElem? (i := 3) rfl))) (mvT hZ (hw _ (List.mem_of_getElem? (i := 4) rfl))) (mvT hZ (hw _ (List.mem_of_getElem? (i := 5) rfl))) (mvT hZ (hw _ (List.mem_of_getElem? (i := 6) rfl))) (by decide) (backOf (W := 0) (own_mput l Z a0 hw [] vc b53 vo [vf, vf, vf, vf, vf, vf, vf, vf] h84 n0 Z85 ge54 ho rfl V88) hZ (hw _ (List.mem_of_getElem? (i := 6) rfl)) (hw _ (List.mem_of_getElem? (i := 5) rfl)) (by decide) (by decide)) (g := (mkF m 82 #[.val (.int va), .val (.int vb), .val (.int vs_), .val (.int vc), .val (.int vo), .val (.int vf), .val (.ref b53), .unset, .unset, .unset, .unset, .unset, .unset] [(.int vo), (.ref b53), (.int vc)])) rfl (by rw [hml]; rfl) (argsL := [(.int vc), (.ref b53), (.int vo)]) (rest := []) (lenOf own_pd0 rfl) rfl (by show 2 * 0 + _ ≤ _; exact Nat.le_of_eq rfl) (hb hby at_82) (fun _ _ => ⟨rfl, e84, (by decide : 1 + 0 ≤ _), (by decide : 8 + 0 ≤ _)⟩)
  dsimp only [Pt.U, Pt.locs, Pt.cells, Pt.slots] at X88 l88 y88 z88 st88 hQ88
  subst l88 y88 z88
  obtain ⟨rfl, N88q, K88, A88⟩ := hQ88
  have N88 := Fr.app Nh87 N88q
  have Z89 : n0 ≤ T88.heap.size := Nat.le_trans Z85 K88.1
  have eh88 : T88.heap = T88.heap := rfl
  obtain ⟨Lh90, Xh90, Nh90⟩ := own_hide X88 N88
  refine OGo.on st88 ?_
  show OGo p e below s _ _ _ (T88.setTop (mkF m 85 #[.val (.int va), .val (.int vb), .val (.int vs_), .val (.int vc), .val (.int vo), .val (.int vf), .val (.ref b53), .unset, .unset, .unset, .unset, .unset, .unset] [(.int (own_end vo vc))]))
  refine OGo.on (fun t k => XS.istore Xh90.here hx rfl (hb hby at_85) rfl (l' := #[.val (.int va), .val (.int vb), .val (.int vs_), .val (.int vc), .val (.int vo), .val (.int vf), .val (.ref b53), .val (.int (own_end vo vc)), .unset, .unset, .unset, .unset, .unset]) rfl k) ?_
  show OGo p e below s _ _ _ (T88.setTop (mkF m 87 #[.val (.int va), .val (.int vb), .val (.int vs_), .val (.int vc), .val (.int vo), .val (.int vf), .val (.ref b53), .val (.int (own_end vo vc)), .unset, .unset, .unset, .unset, .unset] []))
  refine OGo.on (fun t k => XS.iloadN Xh90.here hx rfl (hb hby at_87) rfl k) ?_
  show OGo p e below s _ _ _ (T88.setTop (mkF m 88 #[.val (.int va), .val (.int vb), .val (.int vs_), .val (.int vc), .val (.int vo), .val (.int vf), .val (.ref b53), .val (.int (own_end vo vc)), .unset, .unset, .unset, .unset, .unset] [(.int vc)]))
  refine OGo.on (fun t k => XS.sipush Xh90.here hx rfl (hb hby at_88) k) ?_
  show OGo p e below s _ _ _ (T88.setTop (mkF m 91 #[.val (.int va), .val (.int vb), .val (.int vs_), .val (.int vc), .val (.int vo), .val (.int vf), .val (.ref b53), .val (.int (own_end vo vc)), .unset, .unset, .unset, .unset, .unset] [(.int (2048 : Int32)), (.int vc)]))
  by_cases hc91 : vc < (2048 : Int32)
  · refine OGo.on (fun t k => XS.icmpNo Xh90.here hx rfl (hb hby at_91) rfl (tlt hc91).2.1 k) ?_
    show OGo p e below s _ _ _ (T88.setTop (mkF m 94 #[.val (.int va), .val (.int vb), .val (.int vs_), .val (.int vc), .val (.int vo), .val (.int vf), .val (.ref b53), .val (.int (own_end vo vc)), .unset, .unset, .unset, .unset, .unset] []))
    refine OGo.on (fun t k => XS.iconst Xh90.here hx rfl (hb hby at_94) k) ?_
    show OGo p e below s _ _ _ (T88.setTop (mkF m 95 #[.val (.int va), .val (.int vb), .val (.int vs_), .val (.int vc), .val (.int vo), .val (.int vf), .val (.ref b53), .val (.int (own_end vo vc)), .unset, .unset, .unset, .unset, .unset] [(.int (2 : Int32))]))
    refine OGo.on (fun t k => XS.goto Xh90.here hx rfl (pc0 := 95) (pc' := 109) rfl (hb hby at_95) (by decide) (by decide) k) ?_
    show OGo p e below s _ _ _ (T88.setTop (mkF m 109 #[.val (.int va), .val (.int vb), .val (.int vs_), .val (.int vc), .val (.int vo), .val (.int vf), .val (.ref b53), .val (.int (own_end vo vc)), .unset, .unset, .unset, .unset, .unset] [(.int (2 : Int32))]))
    have V92 : OAL Z T88.heap b53 .byte (([vf, vf, vf, vf, vf, vf, vf, vf].set vo.toNatClampNeg (nar .byte (((192 : Int32) ||| (vc >>> ((6 : Int32) &&& 31))).toInt8.toInt32))).set (vo + (1 : Int32)).toNatClampNeg (nar .byte (((128 : Int32) ||| (vc &&& (63 : Int32))).toInt8.toInt32))) := by have q := A88; rw [own_wr2 hc91] at q; exact q
    rw [own_end2 hc91]
    show OGo p e below s _ _ _ (T88.setTop (mkF m 109 #[.val (.int va), .val (.int vb), .val (.int vs_), .val (.int vc), .val (.int vo), .val (.int vf), .val (.ref b53), .val (.int ((vo + (1 : Int32)) + (1 : Int32))), .unset, .unset, .unset, .unset, .unset] [(.int (2 : Int32))]))
    have hN : n32 vc < 2048 := (own_ltN (n := 2048) (by omega) (by decide)).mp hc91
    refine OGo.on (fun t k => XS.istore Xh90.here hx rfl (hb hby at_109) rfl (l' := #[.val (.int va), .val (.int vb), .val (.int vs_), .val (.int vc), .val (.int vo), .val (.int vf), .val (.ref b53), .val (.int ((vo + (1 : Int32)) + (1 : Int32))), .val (.int (2 : Int32)), .unset, .unset, .unset, .unset]) rfl k) ?_
    show OGo p e below s _ _ _ (T88.setTop (mkF m 111 #[.val (.int va), .val (.int vb), .val (.int vs_), .val (.int vc), .val (.int vo), .val (.int vf), .val (.ref b53), .val (.int ((vo + (1 : Int32)) + (1 : Int32))), .val (.int (2 : Int32)), .unset, .unset, .unset, .unset] []))
    refine OGo.on (fun t k => XS.iload Xh90.here hx rfl (hb hby at_111) rfl k) ?_
    show OGo p e below s _ _ _ (T88.setTop (mkF m 113 #[.val (.int va), .val (.int vb), .val (.int vs_), .val (.int vc), .val (.int vo), .val (.int vf), .val (.ref b53), .val (.int ((vo + (1 : Int32)) + (1 : Int32))), .val (.int (2 : Int32)), .unset, .unset, .unset, .unset] [(.int ((vo + (1 : Int32)) + (1 : Int32)))]))
    refine OGo.on (fun t k => XS.iload Xh90.here hx rfl (hb hby at_113) rfl k) ?_
    show OGo p e below s _ _ _ (T88.setTop (mkF m 115 #[.val (.int va), .val (.int vb), .val (.int vs_), .val (.int vc), .val (.int vo), .val (.int vf), .val (.ref b53), .val (.int ((vo + (1 : Int32)) + (1 : Int32))), .val (.int (2 : Int32)), .unset, .unset, .unset, .unset] [(.int vo), (.int ((vo + (1 : Int32)) + (1 : Int32)))]))
    refine OGo.on (fun t k => XS.iload Xh90.here hx rfl (hb hby at_115) rfl k) ?_
    show OGo p e below s _ _ _ (T88.setTop (mkF m 117 #[.val (.int va), .val (.int vb), .val (.int vs_), .val (.int vc), .val (.int vo), .val (.int vf), .val (.ref b53), .val (.int ((vo + (1 : Int32)) + (1 : Int32))), .val (.int (2 : Int32)), .unset, .unset, .unset, .unset] [(.int (2 : Int32)), (.int vo), (.int ((vo + (1 : Int32)) + (1 : Int32)))]))
    refine OGo.on (fun t k => XS.iadd Xh90.here hx rfl (hb hby at_117) rfl k) ?_
    show OGo p e below s _ _ _ (T88.setTop (mkF m 118 #[.val (.int va), .val (.int vb), .val (.int vs_), .val (.int vc), .val (.int vo), .val (.int vf), .val (.ref b53), .val (.int ((vo + (1 : Int32)) + (1 : Int32))), .val (.int (2 : Int32)), .unset, .unset, .unset, .unset] [(.int (vo + (2 : Int32))), (.int ((vo + (1 : Int32)) + (1 : Int32)))]))
    refine OGo.on (fun t k => XS.icmpYes Xh90.here hx rfl (pc0 := 118) (pc' := 123) rfl (hb hby at_118) rfl (teq (own_x (P := fun o => ((o + (1 : Int32)) + (1 : Int32)) = (o + (2 : Int32))) ho (by decide))).1 (by decide) (by decide) k) ?_
    show OGo p e below s _ _ _ (T88.setTop (mkF m 123 #[.val (.int va), .val (.int vb), .val (.int vs_), .val (.int vc), .val (.int vo), .val (.int vf), .val (.ref b53), .val (.int ((vo + (1 : Int32)) + (1 : Int32))), .val (.int (2 : Int32)), .unset, .unset, .unset, .unset] []))
    refine OGo.on (fun t k => XS.aload Xh90.here hx rfl (hb hby at_123) rfl rfl k) ?_
    show OGo p e below s _ _ _ (T88.setTop (mkF m 125 #[.val (.int va), .val (.int vb), .val (.int vs_), .val (.int vc), .val (.int vo), .val (.int vf), .val (.ref b53), .val (.int ((vo + (1 : Int32)) + (1 : Int32))), .val (.int (2 : Int32)), .unset, .unset, .unset, .unset] [(.ref b53)]))
    refine OGo.on (fun t k => XS.iconst Xh90.here hx rfl (hb hby at_125) k) ?_
    show OGo p e below s _ _ _ (T88.setTop (mkF m 126 #[.val (.int va), .val (.int vb), .val (.int vs_), .val (.int vc), .val (.int vo), .val (.int vf), .val (.ref b53), .val (.int ((vo + (1 : Int32)) + (1 : Int32))), .val (.int (2 : Int32)), .unset, .unset, .unset, .unset] [(.int (0 : Int32)), (.ref b53)]))
    refine OGo.on (fun t k => XS.iload Xh90.here hx rfl (hb hby at_126) rfl k) ?_
    show OGo p e below s _ _ _ (T88.setTop (mkF m 128 #[.val (.int va), .val (.int vb), .val (.int vs_), .val (.int vc), .val (.int vo), .val (.int vf), .val (.ref b53), .val (.int ((vo + (1 : Int32)) + (1 : Int32))), .val (.int (2 : Int32)), .unset, .unset, .unset, .unset] [(.int vo), (.int (0 : Int32)), (.ref b53)]))
    refine OGo.on (fun t k => XS.iload Xh90.here hx rfl (hb hby at_128) rfl k) ?_
    show OGo p e below s _ _ _ (T88.setTop (mkF m 130 #[.val (.int va), .val (.int vb), .val (.int vs_), .val (.int vc), .val (.int vo), .val (.int vf), .val (.ref b53), .val (.int ((vo + (1 : Int32)) + (1 : Int32))), .val (.int (2 : Int32)), .unset, .unset, .unset, .unset] [(.int ((vo + (1 : Int32)) + (1 : Int32))), (.int vo), (.int (0 : Int32)), (.ref b53)]))
    refine OGo.on (fun t k => XS.iload Xh90.here hx rfl (hb hby at_130) rfl k) ?_
    show OGo p e below s _ _ _ (T88.setTop (mkF m 132 #[.val (.int va), .val (.int vb), .val (.int vs_), .val (.int vc), .val (.int vo), .val (.int vf), .val (.ref b53), .val (.int ((vo + (1 : Int32)) + (1 : Int32))), .val (.int (2 : Int32)), .unset, .unset, .unset, .unset] [(.int vf), (.int ((vo + (1 : Int32)) + (1 : Int32))), (.int vo), (.int (0 : Int32)), (.ref b53)]))
    obtain ⟨w93, hq93, hk93⟩ := own_kp2 ho vf _ _ 0 (by decide)
    obtain ⟨_, _, ⟨T93, L93, k93, n93⟩, -, X93, ⟨Lc93, hQ93, l93, y93, z93⟩, st93⟩ := Jvm.LawKit.callS Xh90 hx (y := (⟨"com/example/libmsgframe/libmsgframe/Utf8PutBeyondAsciiPinLaw", "kept", "([BIIIB)Z"⟩ : MethodName)) hown (mvT hZ (hw _ (List.mem_of_getElem? (i := 7) rfl))) (mvT hZ (hw _ (List.mem_of_getElem? (i := 8) rfl))) (mvT hZ (hw _ (List.mem_of_getElem? (i := 9) rfl))) (mvT hZ (hw _ (List.mem_of_getElem? (i := 10) rfl))) (by decide) (backOf (W := 0) (own_mkept l Z a0 hw [] b53 (0 : Int32) vo ((vo + (1 : Int32)) + (1 : Int32)) vf w93 _ T88.heap n0 Z89 V92 hq93) hZ (hw _ (List.mem_of_getElem? (i := 10) rfl)) (hw _ (List.mem_of_getElem? (i := 9) rfl)) (by decide) (by decide)) (g := (mkF m 132 #[.val (.int va), .val (.int vb), .val (.int vs_), .val (.int vc), .val (.int vo), .val (.int vf), .val (.ref b53), .val (.int ((vo + (1 : Int32)) + (1 : Int32))), .val (.int (2 : Int32)), .unset, .unset, .unset, .unset] [(.int vf), (.int ((vo + (1 : Int32)) + (1 : Int32))), (.int vo), (.int (0 : Int32)), (.ref b53)])) rfl (by rw [hml]; rfl) (argsL := [(.ref b53), (.int (0 : Int32)), (.int vo), (.int ((vo + (1 : Int32)) + (1 : Int32))), (.int vf)]) (rest := []) (lenOf own_pd1 rfl) rfl (by show 2 * 0 + _ ≤ _; exact Nat.le_of_eq rfl) (hb hby at_132) (fun _ _ => ⟨rfl, eh88, (by decide : 1 + 0 ≤ _), (by decide : 8 + 0 ≤ _)⟩)
    dsimp only [Pt.U, Pt.locs, Pt.cells, Pt.slots] at X93 l93 y93 z93 st93 hQ93
    subst l93 y93 z93
    obtain ⟨rfl, N93q, e93⟩ := hQ93
    have N93 := Fr.app Nh90 N93q
    obtain ⟨Lh94, Xh94, Nh94⟩ := own_hide X93 N93
    refine OGo.on st93 ?_
    show OGo p e below s _ _ _ (T93.setTop (mkF m 135 #[.val (.int va), .val (.int vb), .val (.int vs_), .val (.int vc), .val (.int vo), .val (.int vf), .val (.ref b53), .val (.int ((vo + (1 : Int32)) + (1 : Int32))), .val (.int (2 : Int32)), .unset, .unset, .unset, .unset] [(.int (own_kept w93 (0 : Int32) vo ((vo + (1 : Int32)) + (1 : Int32)) vf))]))
    refine OGo.on (fun t k => XS.ifNo Xh94.here hx rfl (hb hby at_135) rfl ((if0 _ _).trans (feq (own_n0 hk93)).1) k) ?_
    show OGo p e below s _ _ _ (T93.setTop (mkF m 138 #[.val (.int va), .val (.int vb), .val (.int vs_), .val (.int vc), .val (.int vo), .val (.int vf), .val (.ref b53), .val (.int ((vo + (1 : Int32)) + (1 : Int32))), .val (.int (2 : Int32)), .unset, .unset, .unset, .unset] []))
    refine OGo.on (fun t k => XS.aload Xh94.here hx rfl (hb hby at_138) rfl rfl k) ?_
    show OGo p e below s _ _ _ (T93.setTop (mkF m 140 #[.val (.int va), .val (.int vb), .val (.int vs_), .val (.int vc), .val (.int vo), .val (.int vf), .val (.ref b53), .val (.int ((vo + (1 : Int32)) + (1 : Int32))), .val (.int (2 : Int32)), .unset, .unset, .unset, .unset] [(.ref b53)]))
    refine OGo.on (fun t k => XS.iconst Xh94.here hx rfl (hb hby at_140) k) ?_
    show OGo p e below s _ _ _ (T93.setTop (mkF m 141 #[.val (.int va), .val (.int vb), .val (.int vs_), .val (.int vc), .val (.int vo), .val (.int vf), .val (.ref b53), .val (.int ((vo + (1 : Int32)) + (1 : Int32))), .val (.int (2 : Int32)), .unset, .unset, .unset, .unset] [(.int (1 : Int32)), (.ref b53)]))
    refine OGo.on (fun t k => XS.iload Xh94.here hx rfl (hb hby at_141) rfl k) ?_
    show OGo p e below s _ _ _ (T93.setTop (mkF m 143 #[.val (.int va), .val (.int vb), .val (.int vs_), .val (.int vc), .val (.int vo), .val (.int vf), .val (.ref b53), .val (.int ((vo + (1 : Int32)) + (1 : Int32))), .val (.int (2 : Int32)), .unset, .unset, .unset, .unset] [(.int vo), (.int (1 : Int32)), (.ref b53)]))
    refine OGo.on (fun t k => XS.iload Xh94.here hx rfl (hb hby at_143) rfl k) ?_
    show OGo p e below s _ _ _ (T93.setTop (mkF m 145 #[.val (.int va), .val (.int vb), .val (.int vs_), .val (.int vc), .val (.int vo), .val (.int vf), .val (.ref b53), .val (.int ((vo + (1 : Int32)) + (1 : Int32))), .val (.int (2 : Int32)), .unset, .unset, .unset, .unset] [(.int ((vo + (1 : Int32)) + (1 : Int32))), (.int vo), (.int (1 : Int32)), (.ref b53)]))
    refine OGo.on (fun t k => XS.iload Xh94.here hx rfl (hb hby at_145) rfl k) ?_
    show OGo p e below s _ _ _ (T93.setTop (mkF m 147 #[.val (.int va), .val (.int vb), .val (.int vs_), .val (.int vc), .val (.int vo), .val (.int vf), .val (.ref b53), .val (.int ((vo + (1 : Int32)) + (1 : Int32))), .val (.int (2 : Int32)), .unset, .unset, .unset, .unset] [(.int vf), (.int ((vo + (1 : Int32)) + (1 : Int32))), (.int vo), (.int (1 : Int32)), (.ref b53)]))
    obtain ⟨w95, hq95, hk95⟩ := own_kp2 ho vf _ _ 1 (by decide)
    obtain ⟨_, _, ⟨T95, L95, k95, n95⟩, -, X95, ⟨Lc95, hQ95, l95, y95, z95⟩, st95⟩ := Jvm.LawKit.callS Xh94 hx (y := (⟨"com/example/libmsgframe/libmsgframe/Utf8PutBeyondAsciiPinLaw", "kept", "([BIIIB)Z"⟩ : MethodName)) hown (mvT hZ (hw _ (List.mem_of_getElem? (i := 7) rfl))) (mvT hZ (hw _ (List.mem_of_getElem? (i := 8) rfl))) (mvT hZ (hw _ (List.mem_of_getElem? (i := 9) rfl))) (mvT hZ (hw _ (List.mem_of_getElem? (i := 10) rfl))) (by decide) (backOf (W := 0) (own_mkept l Z a0 hw [] b53 (1 : Int32) vo ((vo + (1 : Int32)) + (1 : Int32)) vf w95 _ T88.heap n0 Z89 V92 hq95) hZ (hw _ (List.mem_of_getElem? (i := 10) rfl)) (hw _ (List.mem_of_getElem? (i := 9) rfl)) (by decide) (by decide)) (g := (mkF m 147 #[.val (.int va), .val (.int vb), .val (.int vs_), .val (.int vc), .val (.int vo), .val (.int vf), .val (.ref b53), .val (.int ((vo + (1 : Int32)) + (1 : Int32))), .val (.int (2 : Int32)), .unset, .unset, .unset, .unset] [(.int vf), (.int ((vo + (1 : Int32)) + (1 : Int32))), (.int vo), (.int (1 : Int32)), (.ref b53)])) rfl (by rw [hml]; rfl) (argsL := [(.ref b53), (.int (1 : Int32)), (.int vo), (.int ((vo + (1 : Int32)) + (1 : Int32))), (.int vf)]) (rest := []) (lenOf own_pd1 rfl) rfl (by show 2 * 0 + _ ≤ _; exact Nat.le_of_eq rfl) (hb hby at_147) (fun _ _ => ⟨rfl, e93, (by decide : 1 + 0 ≤ _), (by decide : 8 + 0 ≤ _)⟩)
    dsimp only [Pt.U, Pt.locs, Pt.cells, Pt.slots] at X95 l95 y95 z95 st95 hQ95
    subst l95 y95 z95
    obtain ⟨rfl, N95q, e95⟩ := hQ95
    have N95 := Fr.app Nh94 N95q
    obtain ⟨Lh96, Xh96, Nh96⟩ := own_hide X95 N95
    refine OGo.on st95 ?_
    show OGo p e below s _ _ _ (T95.setTop (mkF m 150 #[.val (.int va), .val (.int vb), .val (.int vs_), .val (.int vc), .val (.int vo), .val (.int vf), .val (.ref b53), .val (.int ((vo + (1 : Int32)) + (1 : Int32))), .val (.int (2 : Int32)), .unset, .unset, .unset, .unset] [(.int (own_kept w95 (1 : Int32) vo ((vo + (1 : Int32)) + (1 : Int32)) vf))]))
    refine OGo.on (fun t k => XS.ifNo Xh96.here hx rfl (hb hby at_150) rfl ((if0 _ _).trans (feq (own_n0 hk95)).1) k) ?_
    show OGo p e below s _ _ _ (T95.setTop (mkF m 153 #[.val (.int va), .val (.int vb), .val (.int vs_), .val (.int vc), .val (.int vo), .val (.int vf), .val (.ref b53), .val (.int ((vo + (1 : Int32)) + (1 : Int32))), .val (.int (2 : Int32)), .unset, .unset, .unset, .unset] []))
    refine OGo.on (fun t k => XS.aload Xh96.here hx rfl (hb hby at_153) rfl rfl k) ?_
    show OGo p e below s _ _ _ (T95.setTop (mkF m 155 #[.val (.int va), .val (.int vb), .val (.int vs_), .val (.int vc), .val (.int vo), .val (.int vf), .val (.ref b53), .val (.int ((vo + (1 : Int32)) + (1 : Int32))), .val (.int (2 : Int32)), .unset, .unset, .unset, .unset] [(.ref b53)]))
    refine OGo.on (fun t k => XS.iconst Xh96.here hx rfl (hb hby at_155) k) ?_
    show OGo p e below s _ _ _ (T95.setTop (mkF m 156 #[.val (.int va), .val (.int vb), .val (.int vs_), .val (.int vc), .val (.int vo), .val (.int vf), .val (.ref b53), .val (.int ((vo + (1 : Int32)) + (1 : Int32))), .val (.int (2 : Int32)), .unset, .unset, .unset, .unset] [(.int (2 : Int32)), (.ref b53)]))
    refine OGo.on (fun t k => XS.iload Xh96.here hx rfl (hb hby at_156) rfl k) ?_
    show OGo p e below s _ _ _ (T95.setTop (mkF m 158 #[.val (.int va), .val (.int vb), .val (.int vs_), .val (.int vc), .val (.int vo), .val (.int vf), .val (.ref b53), .val (.int ((vo + (1 : Int32)) + (1 : Int32))), .val (.int (2 : Int32)), .unset, .unset, .unset, .unset] [(.int vo), (.int (2 : Int32)), (.ref b53)]))
    refine OGo.on (fun t k => XS.iload Xh96.here hx rfl (hb hby at_158) rfl k) ?_
    show OGo p e below s _ _ _ (T95.setTop (mkF m 160 #[.val (.int va), .val (.int vb), .val (.int vs_), .val (.int vc), .val (.int vo), .val (.int vf), .val (.ref b53), .val (.int ((vo + (1 : Int32)) + (1 : Int32))), .val (.int (2 : Int32)), .unset, .unset, .unset, .unset] [(.int ((vo + (1 : Int32)) + (1 : Int32))), (.int vo), (.int (2 : Int32)), (.ref b53)]))
    refine OGo.on (fun t k => XS.iload Xh96.here hx rfl (hb hby at_160) rfl k) ?_
    show OGo p e below s _ _ _ (T95.setTop (mkF m 162 #[.val (.int va), .val (.int vb), .val (.int vs_), .val (.int vc), .val (.int vo), .val (.int vf), .val (.ref b53), .val (.int ((vo + (1 : Int32)) + (1 : Int32))), .val (.int (2 : Int32)), .unset, .unset, .unset, .unset] [(.int vf), (.int ((vo + (1 : Int32)) + (1 : Int32))), (.int vo), (.int (2 : Int32)), (.ref b53)]))
    obtain ⟨w97, hq97, hk97⟩ := own_kp2 ho vf _ _ 2 (by decide)
    obtain ⟨_, _, ⟨T97, L97, k97, n97⟩, -, X97, ⟨Lc97, hQ97, l97, y97, z97⟩, st97⟩ := Jvm.LawKit.callS Xh96 hx (y := (⟨"com/example/libmsgframe/libmsgframe/Utf8PutBeyondAsciiPinLaw", "kept", "([BIIIB)Z"⟩ : MethodName)) hown (mvT hZ (hw _ (List.mem_of_getElem? (i := 7) rfl))) (mvT hZ (hw _ (List.mem_of_getElem? (i := 8) rfl))) (mvT hZ (hw _ (List.mem_of_getElem? (i := 9) rfl))) (mvT hZ (hw _ (List.mem_of_getElem? (i := 10) rfl))) (by decide) (backOf (W := 0) (own_mkept l Z a0 hw [] b53 (2 : Int32) vo ((vo + (1 : Int32)) + (1 : Int32)) vf w97 _ T88.heap n0 Z89 V92 hq97) hZ (hw _ (List.mem_of_getElem? (i := 10) rfl)) (hw _ (List.mem_of_getElem? (i := 9) rfl)) (by decide) (by decide)) (g := (mkF m 162 #[.val (.int va), .val (.int vb), .val (.int vs_), .val (.int vc), .val (.int vo), .val (.int vf), .val (.ref b53), .val (.int ((vo + (1 : Int32)) + (1 : Int32))), .val (.int (2 : Int32)), .unset, .unset, .unset, .unset] [(.int vf), (.int ((vo + (1 : Int32)) + (1 : Int32))), (.int vo), (.int (2 : Int32)), (.ref b53)])) rfl (by rw [hml]; rfl) (argsL := [(.ref b53), (.int (2 : Int32)), (.int vo), (.int ((vo + (1 : Int32)) + (1 : Int32))), (.int vf)]) (rest := []) (lenOf own_pd1 rfl) rfl (by show 2 * 0 + _ ≤ _; exact Nat.le_of_eq rfl) (hb hby at_162) (fun _ _ => ⟨rfl, e95, (by decide : 1 + 0 ≤ _), (by decide : 8 + 0 ≤ _)⟩)
    dsimp only [Pt.U, Pt.locs, Pt.cells, Pt.slots] at X97 l97 y97 z97 st97 hQ97
    subst l97 y97 z97
    obtain ⟨rfl, N97q, e97⟩ := hQ97
    have N97 := Fr.app Nh96 N97q
    obtain ⟨Lh98, Xh98, Nh98⟩ := own_hide X97 N97
    refine OGo.on st97 ?_
    show OGo p e below s _ _ _ (T97.setTop (mkF m 165 #[.val (.int va), .val (.int vb), .val (.int vs_), .val (.int vc), .val (.int vo), .val (.int vf), .val (.ref b53), .val (.int ((vo + (1 : Int32)) + (1 : Int32))), .val (.int (2 : Int32)), .unset, .unset, .unset, .unset] [(.int (own_kept w97 (2 : Int32) vo ((vo + (1 : Int32)) + (1 : Int32)) vf))]))
    refine OGo.on (fun t k => XS.ifNo Xh98.here hx rfl (hb hby at_165) rfl ((if0 _ _).trans (feq (own_n0 hk97)).1) k) ?_
    show OGo p e below s _ _ _ (T97.setTop (mkF m 168 #[.val (.int va), .val (.int vb), .val (.int vs_), .val (.int vc), .val (.int vo), .val (.int vf), .val (.ref b53), .val (.int ((vo + (1 : Int32)) + (1 : Int32))), .val (.int (2 : Int32)), .unset, .unset, .unset, .unset] []))
    refine OGo.on (fun t k => XS.aload Xh98.here hx rfl (hb hby at_168) rfl rfl k) ?_
    show OGo p e below s _ _ _ (T97.setTop (mkF m 170 #[.val (.int va), .val (.int vb), .val (.int vs_), .val (.int vc), .val (.int vo), .val (.int vf), .val (.ref b53), .val (.int ((vo + (1 : Int32)) + (1 : Int32))), .val (.int (2 : Int32)), .unset, .unset, .unset, .unset] [(.ref b53)]))
    refine OGo.on (fun t k => XS.iconst Xh98.here hx rfl (hb hby at_170) k) ?_
    show OGo p e below s _ _ _ (T97.setTop (mkF m 171 #[.val (.int va), .val (.int vb), .val (.int vs_), .val (.int vc), .val (.int vo), .val (.int vf), .val (.ref b53), .val (.int ((vo + (1 : Int32)) + (1 : Int32))), .val (.int (2 : Int32)), .unset, .unset, .unset, .unset] [(.int (3 : Int32)), (.ref b53)]))
    refine OGo.on (fun t k => XS.iload Xh98.here hx rfl (hb hby at_171) rfl k) ?_
    show OGo p e below s _ _ _ (T97.setTop (mkF m 173 #[.val (.int va), .val (.int vb), .val (.int vs_), .val (.int vc), .val (.int vo), .val (.int vf), .val (.ref b53), .val (.int ((vo + (1 : Int32)) + (1 : Int32))), .val (.int (2 : Int32)), .unset, .unset, .unset, .unset] [(.int vo), (.int (3 : Int32)), (.ref b53)]))
    refine OGo.on (fun t k => XS.iload Xh98.here hx rfl (hb hby at_173) rfl k) ?_
    show OGo p e below s _ _ _ (T97.setTop (mkF m 175 #[.val (.int va), .val (.int vb), .val (.int vs_), .val (.int vc), .val (.int vo), .val (.int vf), .val (.ref b53), .val (.int ((vo + (1 : Int32)) + (1 : Int32))), .val (.int (2 : Int32)), .unset, .unset, .unset, .unset] [(.int ((vo + (1 : Int32)) + (1 : Int32))), (.int vo), (.int (3 : Int32)), (.ref b53)]))
    refine OGo.on (fun t k => XS.iload Xh98.here hx rfl (hb hby at_175) rfl k) ?_
    show OGo p e below s _ _ _ (T97.setTop (mkF m 177 #[.val (.int va), .val (.int vb), .val (.int vs_), .val (.int vc), .val (.int vo), .val (.int vf), .val (.ref b53), .val (.int ((vo + (1 : Int32)) + (1 : Int32))), .val (.int (2 : Int32)), .unset, .unset, .unset, .unset] [(.int vf), (.int ((vo + (1 : Int32)) + (1 : Int32))), (.int vo), (.int (3 : Int32)), (.ref b53)]))
    obtain ⟨w99, hq99, hk99⟩ := own_kp2 ho vf _ _ 3 (by decide)
    obtain ⟨_, _, ⟨T99, L99, k99, n99⟩, -, X99, ⟨Lc99, hQ99, l99, y99, z99⟩, st99⟩ := Jvm.LawKit.callS Xh98 hx (y := (⟨"com/example/libmsgframe/libmsgframe/Utf8PutBeyondAsciiPinLaw", "kept", "([BIIIB)Z"⟩ : MethodName)) hown (mvT hZ (hw _ (List.mem_of_getElem? (i := 7) rfl))) (mvT hZ (hw _ (List.mem_of_getElem? (i := 8) rfl))) (mvT hZ (hw _ (List.mem_of_getElem? (i := 9) rfl))) (mvT hZ (hw _ (List.mem_of_getElem? (i := 10) rfl))) (by decide) (backOf (W := 0) (own_mkept l Z a0 hw [] b53 (3 : Int32) vo ((vo + (1 : Int32)) + (1 : Int32)) vf w99 _ T88.heap n0 Z89 V92 hq99) hZ (hw _ (List.mem_of_getElem? (i := 10) rfl)) (hw _ (List.mem_of_getElem? (i := 9) rfl)) (by decide) (by decide)) (g := (mkF m 177 #[.val (.int va), .val (.int vb), .val (.int vs_), .val (.int vc), .val (.int vo), .val (.int vf), .val (.ref b53), .val (.int ((vo + (1 : Int32)) + (1 : Int32))), .val (.int (2 : Int32)), .unset, .unset, .unset, .unset] [(.int vf), (.int ((vo + (1 : Int32)) + (1 : Int32))), (.int vo), (.int (3 : Int32)), (.ref b53)])) rfl (by rw [hml]; rfl) (argsL := [(.ref b53), (.int (3 : Int32)), (.int vo), (.int ((vo + (1 : Int32)) + (1 : Int32))), (.int vf)]) (rest := []) (lenOf own_pd1 rfl) rfl (by show 2 * 0 + _ ≤ _; exact Nat.le_of_eq rfl) (hb hby at_177) (fun _ _ => ⟨rfl, e97, (by decide : 1 + 0 ≤ _), (by decide : 8 + 0 ≤ _)⟩)
    dsimp only [Pt.U, Pt.locs, Pt.cells, Pt.slots] at X99 l99 y99 z99 st99 hQ99
    subst l99 y99 z99
    obtain ⟨rfl, N99q, e99⟩ := hQ99
    have N99 := Fr.app Nh98 N99q
    obtain ⟨Lh100, Xh100, Nh100⟩ := own_hide X99 N99
    refine OGo.on st99 ?_
    show OGo p e below s _ _ _ (T99.setTop (mkF m 180 #[.val (.int va), .val (.int vb), .val (.int vs_), .val (.int vc), .val (.int vo), .val (.int vf), .val (.ref b53), .val (.int ((vo + (1 : Int32)) + (1 : Int32))), .val (.int (2 : Int32)), .unset, .unset, .unset, .unset] [(.int (own_kept w99 (3 : Int32) vo ((vo + (1 : Int32)) + (1 : Int32)) vf))]))
    refine OGo.on (fun t k => XS.ifNo Xh100.here hx rfl (hb hby at_180) rfl ((if0 _ _).trans (feq (own_n0 hk99)).1) k) ?_
    show OGo p e below s _ _ _ (T99.setTop (mkF m 183 #[.val (.int va), .val (.int vb), .val (.int vs_), .val (.int vc), .val (.int vo), .val (.int vf), .val (.ref b53), .val (.int ((vo + (1 : Int32)) + (1 : Int32))), .val (.int (2 : Int32)), .unset, .unset, .unset, .unset] []))
    refine OGo.on (fun t k => XS.aload Xh100.here hx rfl (hb hby at_183) rfl rfl k) ?_
    show OGo p e below s _ _ _ (T99.setTop (mkF m 185 #[.val (.int va), .val (.int vb), .val (.int vs_), .val (.int vc), .val (.int vo), .val (.int vf), .val (.ref b53), .val (.int ((vo + (1 : Int32)) + (1 : Int32))), .val (.int (2 : Int32)), .unset, .unset, .unset, .unset] [(.ref b53)]))
    refine OGo.on (fun t k => XS.iconst Xh100.here hx rfl (hb hby at_185) k) ?_
    show OGo p e below s _ _ _ (T99.setTop (mkF m 186 #[.val (.int va), .val (.int vb), .val (.int vs_), .val (.int vc), .val (.int vo), .val (.int vf), .val (.ref b53), .val (.int ((vo + (1 : Int32)) + (1 : Int32))), .val (.int (2 : Int32)), .unset, .unset, .unset, .unset] [(.int (4 : Int32)), (.ref b53)]))
    refine OGo.on (fun t k => XS.iload Xh100.here hx rfl (hb hby at_186) rfl k) ?_
    show OGo p e below s _ _ _ (T99.setTop (mkF m 188 #[.val (.int va), .val (.int vb), .val (.int vs_), .val (.int vc), .val (.int vo), .val (.int vf), .val (.ref b53), .val (.int ((vo + (1 : Int32)) + (1 : Int32))), .val (.int (2 : Int32)), .unset, .unset, .unset, .unset] [(.int vo), (.int (4 : Int32)), (.ref b53)]))
    refine OGo.on (fun t k => XS.iload Xh100.here hx rfl (hb hby at_188) rfl k) ?_
    show OGo p e below s _ _ _ (T99.setTop (mkF m 190 #[.val (.int va), .val (.int vb), .val (.int vs_), .val (.int vc), .val (.int vo), .val (.int vf), .val (.ref b53), .val (.int ((vo + (1 : Int32)) + (1 : Int32))), .val (.int (2 : Int32)), .unset, .unset, .unset, .unset] [(.int ((vo + (1 : Int32)) + (1 : Int32))), (.int vo), (.int (4 : Int32)), (.ref b53)]))
    refine OGo.on (fun t k => XS.iload Xh100.here hx rfl (hb hby at_190) rfl k) ?_
    show OGo p e below s _ _ _ (T99.setTop (mkF m 192 #[.val (.int va), .val (.int vb), .val (.int vs_), .val (.int vc), .val (.int vo), .val (.int vf), .val (.ref b53), .val (.int ((vo + (1 : Int32)) + (1 : Int32))), .val (.int (2 : Int32)), .unset, .unset, .unset, .unset] [(.int vf), (.int ((vo + (1 : Int32)) + (1 : Int32))), (.int vo), (.int (4 : Int32)), (.ref b53)]))
    obtain ⟨w101, hq101, hk101⟩ := own_kp2 ho vf _ _ 4 (by decide)
    obtain ⟨_, _, ⟨T101, L101, k101, n101⟩, -, X101, ⟨Lc101, hQ101, l101, y101, z101⟩, st101⟩ := Jvm.LawKit.callS Xh100 hx (y := (⟨"com/example/libmsgframe/libmsgframe/Utf8PutBeyondAsciiPinLaw", "kept", "([BIIIB)Z"⟩ : MethodName)) hown (mvT hZ (hw _ (List.mem_of_getElem? (i := 7) rfl))) (mvT hZ (hw _ (List.mem_of_getElem? (i := 8) rfl))) (mvT hZ (hw _ (List.mem_of_getElem? (i := 9) rfl))) (mvT hZ (hw _ (List.mem_of_getElem? (i := 10) rfl))) (by decide) (backOf (W := 0) (own_mkept l Z a0 hw [] b53 (4 : Int32) vo ((vo + (1 : Int32)) + (1 : Int32)) vf w101 _ T88.heap n0 Z89 V92 hq101) hZ (hw _ (List.mem_of_getElem? (i := 10) rfl)) (hw _ (List.mem_of_getElem? (i := 9) rfl)) (by decide) (by decide)) (g := (mkF m 192 #[.val (.int va), .val (.int vb), .val (.int vs_), .val (.int vc), .val (.int vo), .val (.int vf), .val (.ref b53), .val (.int ((vo + (1 : Int32)) + (1 : Int32))), .val (.int (2 : Int32)), .unset, .unset, .unset, .unset] [(.int vf), (.int ((vo + (1 : Int32)) + (1 : Int32))), (.int vo), (.int (4 : Int32)), (.ref b53)])) rfl (by rw [hml]; rfl) (argsL := [(.ref b53), (.int (4 : Int32)), (.int vo), (.int ((vo + (1 : Int32)) + (1 : Int32))), (.int vf)]) (rest := []) (lenOf own_pd1 rfl) rfl (by show 2 * 0 + _ ≤ _; exact Nat.le_of_eq rfl) (hb hby at_192) (fun _ _ => ⟨rfl, e99, (by decide : 1 + 0 ≤ _), (by decide : 8 + 0 ≤ _)⟩)
    dsimp only [Pt.U, Pt.locs, Pt.cells, Pt.slots] at X101 l101 y101 z101 st101 hQ101
    subst l101 y101 z101
    obtain ⟨rfl, N101q, e101⟩ := hQ101
    have N101 := Fr.app Nh100 N101q
    obtain ⟨Lh102, Xh102, Nh102⟩ := own_hide X101 N101
    refine OGo.on st101 ?_
    show OGo p e below s _ _ _ (T101.setTop (mkF m 195 #[.val (.int va), .val (.int vb), .val (.int vs_), .val (.int vc), .val (.int vo), .val (.int vf), .val (.ref b53), .val (.int ((vo + (1 : Int32)) + (1 : Int32))), .val (.int (2 : Int32)), .unset, .unset, .unset, .unset] [(.int (own_kept w101 (4 : Int32) vo ((vo + (1 : Int32)) + (1 : Int32)) vf))]))
    refine OGo.on (fun t k => XS.ifNo Xh102.here hx rfl (hb hby at_195) rfl ((if0 _ _).trans (feq (own_n0 hk101)).1) k) ?_
    show OGo p e below s _ _ _ (T101.setTop (mkF m 198 #[.val (.int va), .val (.int vb), .val (.int vs_), .val (.int vc), .val (.int vo), .val (.int vf), .val (.ref b53), .val (.int ((vo + (1 : Int32)) + (1 : Int32))), .val (.int (2 : Int32)), .unset, .unset, .unset, .unset] []))
    refine OGo.on (fun t k => XS.aload Xh102.here hx rfl (hb hby at_198) rfl rfl k) ?_
    show OGo p e below s _ _ _ (T101.setTop (mkF m 200 #[.val (.int va), .val (.int vb), .val (.int vs_), .val (.int vc), .val (.int vo), .val (.int vf), .val (.ref b53), .val (.int ((vo + (1 : Int32)) + (1 : Int32))), .val (.int (2 : Int32)), .unset, .unset, .unset, .unset] [(.ref b53)]))
    refine OGo.on (fun t k => XS.iconst Xh102.here hx rfl (hb hby at_200) k) ?_
    show OGo p e below s _ _ _ (T101.setTop (mkF m 201 #[.val (.int va), .val (.int vb), .val (.int vs_), .val (.int vc), .val (.int vo), .val (.int vf), .val (.ref b53), .val (.int ((vo + (1 : Int32)) + (1 : Int32))), .val (.int (2 : Int32)), .unset, .unset, .unset, .unset] [(.int (5 : Int32)), (.ref b53)]))
    refine OGo.on (fun t k => XS.iload Xh102.here hx rfl (hb hby at_201) rfl k) ?_
    show OGo p e below s _ _ _ (T101.setTop (mkF m 203 #[.val (.int va), .val (.int vb), .val (.int vs_), .val (.int vc), .val (.int vo), .val (.int vf), .val (.ref b53), .val (.int ((vo + (1 : Int32)) + (1 : Int32))), .val (.int (2 : Int32)), .unset, .unset, .unset, .unset] [(.int vo), (.int (5 : Int32)), (.ref b53)]))
    refine OGo.on (fun t k => XS.iload Xh102.here hx rfl (hb hby at_203) rfl k) ?_
    show OGo p e below s _ _ _ (T101.setTop (mkF m 205 #[.val (.int va), .val (.int vb), .val (.int vs_), .val (.int vc), .val (.int vo), .val (.int vf), .val (.ref b53), .val (.int ((vo + (1 : Int32)) + (1 : Int32))), .val (.int (2 : Int32)), .unset, .unset, .unset, .unset] [(.int ((vo + (1 : Int32)) + (1 : Int32))), (.int vo), (.int (5 : Int32)), (.ref b53)]))
    refine OGo.on (fun t k => XS.iload Xh102.here hx rfl (hb hby at_205) rfl k) ?_
    show OGo p e below s _ _ _ (T101.setTop (mkF m 207 #[.val (.int va), .val (.int vb), .val (.int vs_), .val (.int vc), .val (.int vo), .val (.int vf), .val (.ref b53), .val (.int ((vo + (1 : Int32)) + (1 : Int32))), .val (.int (2 : Int32)), .unset, .unset, .unset, .unset] [(.int vf), (.int ((vo + (1 : Int32)) + (1 : Int32))), (.int vo), (.int (5 : Int32)), (.ref b53)]))
    obtain ⟨w103, hq103, hk103⟩ := own_kp2 ho vf _ _ 5 (by decide)
    obtain ⟨_, _, ⟨T103, L103, k103, n103⟩, -, X103, ⟨Lc103, hQ103, l103, y103, z103⟩, st103⟩ := Jvm.LawKit.callS Xh102 hx (y := (⟨"com/example/libmsgframe/libmsgframe/Utf8PutBeyondAsciiPinLaw", "kept", "([BIIIB)Z"⟩ : MethodName)) hown (mvT hZ (hw _ (List.mem_of_getElem? (i := 7) rfl))) (mvT hZ (hw _ (List.mem_of_getElem? (i := 8) rfl))) (mvT hZ (hw _ (List.mem_of_getElem? (i := 9) rfl))) (mvT hZ (hw _ (List.mem_of_getElem? (i := 10) rfl))) (by decide) (backOf (W := 0) (own_mkept l Z a0 hw [] b53 (5 : Int32) vo ((vo + (1 : Int32)) + (1 : Int32)) vf w103 _ T88.heap n0 Z89 V92 hq103) hZ (hw _ (List.mem_of_getElem? (i := 10) rfl)) (hw _ (List.mem_of_getElem? (i := 9) rfl)) (by decide) (by decide)) (g := (mkF m 207 #[.val (.int va), .val (.int vb), .val (.int vs_), .val (.int vc), .val (.int vo), .val (.int vf), .val (.ref b53), .val (.int ((vo + (1 : Int32)) + (1 : Int32))), .val (.int (2 : Int32)), .unset, .unset, .unset, .unset] [(.int vf), (.int ((vo + (1 : Int32)) + (1 : Int32))), (.int vo), (.int (5 : Int32)), (.ref b53)])) rfl (by rw [hml]; rfl) (argsL := [(.ref b53), (.int (5 : Int32)), (.int vo), (.int ((vo + (1 : Int32)) + (1 : Int32))), (.int vf)]) (rest := []) (lenOf own_pd1 rfl) rfl (by show 2 * 0 + _ ≤ _; exact Nat.le_of_eq rfl) (hb hby at_207) (fun _ _ => ⟨rfl, e101, (by decide : 1 + 0 ≤ _), (by decide : 8 + 0 ≤ _)⟩)
    dsimp only [Pt.U, Pt.locs, Pt.cells, Pt.slots] at X103 l103 y103 z103 st103 hQ103
    subst l103 y103 z103
    obtain ⟨rfl, N103q, e103⟩ := hQ103
    have N103 := Fr.app Nh102 N103q
    obtain ⟨Lh104, Xh104, Nh104⟩ := own_hide X103 N103
    refine OGo.on st103 ?_
    show OGo p e below s _ _ _ (T103.setTop (mkF m 210 #[.val (.int va), .val (.int vb), .val (.int vs_), .val (.int vc), .val (.int vo), .val (.int vf), .val (.ref b53), .val (.int ((vo + (1 : Int32)) + (1 : Int32))), .val (.int (2 : Int32)), .unset, .unset, .unset, .unset] [(.int (own_kept w103 (5 : Int32) vo ((vo + (1 : Int32)) + (1 : Int32)) vf))]))
    refine OGo.on (fun t k => XS.ifNo Xh104.here hx rfl (hb hby at_210) rfl ((if0 _ _).trans (feq (own_n0 hk103)).1) k) ?_
    show OGo p e below s _ _ _ (T103.setTop (mkF m 213 #[.val (.int va), .val (.int vb), .val (.int vs_), .val (.int vc), .val (.int vo), .val (.int vf), .val (.ref b53), .val (.int ((vo + (1 : Int32)) + (1 : Int32))), .val (.int (2 : Int32)), .unset, .unset, .unset, .unset] []))
    refine OGo.on (fun t k => XS.aload Xh104.here hx rfl (hb hby at_213) rfl rfl k) ?_
    show OGo p e below s _ _ _ (T103.setTop (mkF m 215 #[.val (.int va), .val (.int vb), .val (.int vs_), .val (.int vc), .val (.int vo), .val (.int vf), .val (.ref b53), .val (.int ((vo + (1 : Int32)) + (1 : Int32))), .val (.int (2 : Int32)), .unset, .unset, .unset, .unset] [(.ref b53)]))
    refine OGo.on (fun t k => XS.bipush Xh104.here hx rfl (hb hby at_215) k) ?_
    show OGo p e below s _ _ _ (T103.setTop (mkF m 217 #[.val (.int va), .val (.int vb), .val (.int vs_), .val (.int vc), .val (.int vo), .val (.int vf), .val (.ref b53), .val (.int ((vo + (1 : Int32)) + (1 : Int32))), .val (.int (2 : Int32)), .unset, .unset, .unset, .unset] [(.int (6 : Int32)), (.ref b53)]))
    refine OGo.on (fun t k => XS.iload Xh104.here hx rfl (hb hby at_217) rfl k) ?_
    show OGo p e below s _ _ _ (T103.setTop (mkF m 219 #[.val (.int va), .val (.int vb), .val (.int vs_), .val (.int vc), .val (.int vo), .val (.int vf), .val (.ref b53), .val (.int ((vo + (1 : Int32)) + (1 : Int32))), .val (.int (2 : Int32)), .unset, .unset, .unset, .unset] [(.int vo), (.int (6 : Int32)), (.ref b53)]))
    refine OGo.on (fun t k => XS.iload Xh104.here hx rfl (hb hby at_219) rfl k) ?_
    show OGo p e below s _ _ _ (T103.setTop (mkF m 221 #[.val (.int va), .val (.int vb), .val (.int vs_), .val (.int vc), .val (.int vo), .val (.int vf), .val (.ref b53), .val (.int ((vo + (1 : Int32)) + (1 : Int32))), .val (.int (2 : Int32)), .unset, .unset, .unset, .unset] [(.int ((vo + (1 : Int32)) + (1 : Int32))), (.int vo), (.int (6 : Int32)), (.ref b53)]))
    refine OGo.on (fun t k => XS.iload Xh104.here hx rfl (hb hby at_221) rfl k) ?_
    show OGo p e below s _ _ _ (T103.setTop (mkF m 223 #[.val (.int va), .val (.int vb), .val (.int vs_), .val (.int vc), .val (.int vo), .val (.int vf), .val (.ref b53), .val (.int ((vo + (1 : Int32)) + (1 : Int32))), .val (.int (2 : Int32)), .unset, .unset, .unset, .unset] [(.int vf), (.int ((vo + (1 : Int32)) + (1 : Int32))), (.int vo), (.int (6 : Int32)), (.ref b53)]))
    obtain ⟨w105, hq105, hk105⟩ := own_kp2 ho vf _ _ 6 (by decide)
    obtain ⟨_, _, ⟨T105, L105, k105, n105⟩, -, X105, ⟨Lc105, hQ105, l105, y105, z105⟩, st105⟩ := Jvm.LawKit.callS Xh104 hx (y := (⟨"com/example/libmsgframe/libmsgframe/Utf8PutBeyondAsciiPinLaw", "kept", "([BIIIB)Z"⟩ : MethodName)) hown (mvT hZ (hw _ (List.mem_of_getElem? (i := 7) rfl))) (mvT hZ (hw _ (List.mem_of_getElem? (i := 8) rfl))) (mvT hZ (hw _ (List.mem_of_getElem? (i := 9) rfl))) (mvT hZ (hw _ (List.mem_of_getElem? (i := 10) rfl))) (by decide) (backOf (W := 0) (own_mkept l Z a0 hw [] b53 (6 : Int32) vo ((vo + (1 : Int32)) + (1 : Int32)) vf w105 _ T88.heap n0 Z89 V92 hq105) hZ (hw _ (List.mem_of_getElem? (i := 10) rfl)) (hw _ (List.mem_of_getElem? (i := 9) rfl)) (by decide) (by decide)) (g := (mkF m 223 #[.val (.int va), .val (.int vb), .val (.int vs_), .val (.int vc), .val (.int vo), .val (.int vf), .val (.ref b53), .val (.int ((vo + (1 : Int32)) + (1 : Int32))), .val (.int (2 : Int32)), .unset, .unset, .unset, .unset] [(.int vf), (.int ((vo + (1 : Int32)) + (1 : Int32))), (.int vo), (.int (6 : Int32)), (.ref b53)])) rfl (by rw [hml]; rfl) (argsL := [(.ref b53), (.int (6 : Int32)), (.int vo), (.int ((vo + (1 : Int32)) + (1 : Int32))), (.int vf)]) (rest := []) (lenOf own_pd1 rfl) rfl (by show 2 * 0 + _ ≤ _; exact Nat.le_of_eq rfl) (hb hby at_223) (fun _ _ => ⟨rfl, e103, (by decide : 1 + 0 ≤ _), (by decide : 8 + 0 ≤ _)⟩)
    dsimp only [Pt.U, Pt.locs, Pt.cells, Pt.slots] at X105 l105 y105 z105 st105 hQ105
    subst l105 y105 z105
    obtain ⟨rfl, N105q, e105⟩ := hQ105
    have N105 := Fr.app Nh104 N105q
    obtain ⟨Lh106, Xh106, Nh106⟩ := own_hide X105 N105
    refine OGo.on st105 ?_
    show OGo p e below s _ _ _ (T105.setTop (mkF m 226 #[.val (.int va), .val (.int vb), .val (.int vs_), .val (.int vc), .val (.int vo), .val (.int vf), .val (.ref b53), .val (.int ((vo + (1 : Int32)) + (1 : Int32))), .val (.int (2 : Int32)), .unset, .unset, .unset, .unset] [(.int (own_kept w105 (6 : Int32) vo ((vo + (1 : Int32)) + (1 : Int32)) vf))]))
    refine OGo.on (fun t k => XS.ifNo Xh106.here hx rfl (hb hby at_226) rfl ((if0 _ _).trans (feq (own_n0 hk105)).1) k) ?_
    show OGo p e below s _ _ _ (T105.setTop (mkF m 229 #[.val (.int va), .val (.int vb), .val (.int vs_), .val (.int vc), .val (.int vo), .val (.int vf), .val (.ref b53), .val (.int ((vo + (1 : Int32)) + (1 : Int32))), .val (.int (2 : Int32)), .unset, .unset, .unset, .unset] []))
    refine OGo.on (fun t k => XS.aload Xh106.here hx rfl (hb hby at_229) rfl rfl k) ?_
    show OGo p e below s _ _ _ (T105.setTop (mkF m 231 #[.val (.int va), .val (.int vb), .val (.int vs_), .val (.int vc), .val (.int vo), .val (.int vf), .val (.ref b53), .val (.int ((vo + (1 : Int32)) + (1 : Int32))), .val (.int (2 : Int32)), .unset, .unset, .unset, .unset] [(.ref b53)]))
    refine OGo.on (fun t k => XS.bipush Xh106.here hx rfl (hb hby at_231) k) ?_
    show OGo p e below s _ _ _ (T105.setTop (mkF m 233 #[.val (.int va), .val (.int vb), .val (.int vs_), .val (.int vc), .val (.int vo), .val (.int vf), .val (.ref b53), .val (.int ((vo + (1 : Int32)) + (1 : Int32))), .val (.int (2 : Int32)), .unset, .unset, .unset, .unset] [(.int (7 : Int32)), (.ref b53)]))
    refine OGo.on (fun t k => XS.iload Xh106.here hx rfl (hb hby at_233) rfl k) ?_
    show OGo p e below s _ _ _ (T105.setTop (mkF m 235 #[.val (.int va), .val (.int vb), .val (.int vs_), .val (.int vc), .val (.int vo), .val (.int vf), .val (.ref b53), .val (.int ((vo + (1 : Int32)) + (1 : Int32))), .val (.int (2 : Int32)), .unset, .unset, .unset, .unset] [(.int vo), (.int (7 : Int32)), (.ref b53)]))
    refine OGo.on (fun t k => XS.iload Xh106.here hx rfl (hb hby at_235) rfl k) ?_
    show OGo p e below s _ _ _ (T105.setTop (mkF m 237 #[.val (.int va), .val (.int vb), .val (.int vs_), .val (.int vc), .val (.int vo), .val (.int vf), .val (.ref b53), .val (.int ((vo + (1 : Int32)) + (1 : Int32))), .val (.int (2 : Int32)), .unset, .unset, .unset, .unset] [(.int ((vo + (1 : Int32)) + (1 : Int32))), (.int vo), (.int (7 : Int32)), (.ref b53)]))
    refine OGo.on (fun t k => XS.iload Xh106.here hx rfl (hb hby at_237) rfl k) ?_
    show OGo p e below s _ _ _ (T105.setTop (mkF m 239 #[.val (.int va), .val (.int vb), .val (.int vs_), .val (.int vc), .val (.int vo), .val (.int vf), .val (.ref b53), .val (.int ((vo + (1 : Int32)) + (1 : Int32))), .val (.int (2 : Int32)), .unset, .unset, .unset, .unset] [(.int vf), (.int ((vo + (1 : Int32)) + (1 : Int32))), (.int vo), (.int (7 : Int32)), (.ref b53)]))
    obtain ⟨w107, hq107, hk107⟩ := own_kp2 ho vf _ _ 7 (by decide)
    obtain ⟨_, _, ⟨T107, L107, k107, n107⟩, -, X107, ⟨Lc107, hQ107, l107, y107, z107⟩, st107⟩ := Jvm.LawKit.callS Xh106 hx (y := (⟨"com/example/libmsgframe/libmsgframe/Utf8PutBeyondAsciiPinLaw", "kept", "([BIIIB)Z"⟩ : MethodName)) hown (mvT hZ (hw _ (List.mem_of_getElem? (i := 7) rfl))) (mvT hZ (hw _ (List.mem_of_getElem? (i := 8) rfl))) (mvT hZ (hw _ (List.mem_of_getElem? (i := 9) rfl))) (mvT hZ (hw _ (List.mem_of_getElem? (i := 10) rfl))) (by decide) (backOf (W := 0) (own_mkept l Z a0 hw [] b53 (7 : Int32) vo ((vo + (1 : Int32)) + (1 : Int32)) vf w107 _ T88.heap n0 Z89 V92 hq107) hZ (hw _ (List.mem_of_getElem? (i := 10) rfl)) (hw _ (List.mem_of_getElem? (i := 9) rfl)) (by decide) (by decide)) (g := (mkF m 239 #[.val (.int va), .val (.int vb), .val (.int vs_), .val (.int vc), .val (.int vo), .val (.int vf), .val (.ref b53), .val (.int ((vo + (1 : Int32)) + (1 : Int32))), .val (.int (2 : Int32)), .unset, .unset, .unset, .unset] [(.int vf), (.int ((vo + (1 : Int32)) + (1 : Int32))), (.int vo), (.int (7 : Int32)), (.ref b53)])) rfl (by rw [hml]; rfl) (argsL := [(.ref b53), (.int (7 : Int32)), (.int vo), (.int ((vo + (1 : Int32)) + (1 : Int32))), (.int vf)]) (rest := []) (lenOf own_pd1 rfl) rfl (by show 2 * 0 + _ ≤ _; exact Nat.le_of_eq rfl) (hb hby at_239) (fun _ _ => ⟨rfl, e105, (by decide : 1 + 0 ≤ _), (by decide : 8 + 0 ≤ _)⟩)
    dsimp only [Pt.U, Pt.locs, Pt.cells, Pt.slots] at X107 l107 y107 z107 st107 hQ107
    subst l107 y107 z107
    obtain ⟨rfl, N107q, e107⟩ := hQ107
    have N107 := Fr.app Nh106 N107q
    obtain ⟨Lh108, Xh108, Nh108⟩ := own_hide X107 N107
    refine OGo.on st107 ?_
    show OGo p e below s _ _ _ (T107.setTop (mkF m 242 #[.val (.int va), .val (.int vb), .val (.int vs_), .val (.int vc), .val (.int vo), .val (.int vf), .val (.ref b53), .val (.int ((vo + (1 : Int32)) + (1 : Int32))), .val (.int (2 : Int32)), .unset, .unset, .unset, .unset] [(.int (own_kept w107 (7 : Int32) vo ((vo + (1 : Int32)) + (1 : Int32)) vf))]))
    refine OGo.on (fun t k => XS.ifYes Xh108.here hx rfl (pc0 := 242) (pc' := 247) rfl (hb hby at_242) rfl ((if0 _ _).trans (feq (own_n0 hk107)).2) (by decide) (by decide) k) ?_
    show OGo p e below s _ _ _ (T107.setTop (mkF m 247 #[.val (.int va), .val (.int vb), .val (.int vs_), .val (.int vc), .val (.int vo), .val (.int vf), .val (.ref b53), .val (.int ((vo + (1 : Int32)) + (1 : Int32))), .val (.int (2 : Int32)), .unset, .unset, .unset, .unset] []))
    refine OGo.on (fun t k => XS.aload Xh108.here hx rfl (hb hby at_247) rfl rfl k) ?_
    show OGo p e below s _ _ _ (T107.setTop (mkF m 249 #[.val (.int va), .val (.int vb), .val (.int vs_), .val (.int vc), .val (.int vo), .val (.int vf), .val (.ref b53), .val (.int ((vo + (1 : Int32)) + (1 : Int32))), .val (.int (2 : Int32)), .unset, .unset, .unset, .unset] [(.ref b53)]))
    refine OGo.on (fun t k => XS.iload Xh108.here hx rfl (hb hby at_249) rfl k) ?_
    show OGo p e below s _ _ _ (T107.setTop (mkF m 251 #[.val (.int va), .val (.int vb), .val (.int vs_), .val (.int vc), .val (.int vo), .val (.int vf), .val (.ref b53), .val (.int ((vo + (1 : Int32)) + (1 : Int32))), .val (.int (2 : Int32)), .unset, .unset, .unset, .unset] [(.int vo), (.ref b53)]))
    refine OGo.on (fun t k => OAL.baB Xh108 hx hZ e107 V92 (own_rd2 ho vf _ _).1 (hb hby at_251) k) ?_
    show OGo p e below s _ _ _ (T107.setTop (mkF m 252 #[.val (.int va), .val (.int vb), .val (.int vs_), .val (.int vc), .val (.int vo), .val (.int vf), .val (.ref b53), .val (.int ((vo + (1 : Int32)) + (1 : Int32))), .val (.int (2 : Int32)), .unset, .unset, .unset, .unset] [(.int (nar .byte (((192 : Int32) ||| (vc >>> ((6 : Int32) &&& 31))).toInt8.toInt32)))]))
    refine OGo.on (fun t k => XS.sipush Xh108.here hx rfl (hb hby at_252) k) ?_
    show OGo p e below s _ _ _ (T107.setTop (mkF m 255 #[.val (.int va), .val (.int vb), .val (.int vs_), .val (.int vc), .val (.int vo), .val (.int vf), .val (.ref b53), .val (.int ((vo + (1 : Int32)) + (1 : Int32))), .val (.int (2 : Int32)), .unset, .unset, .unset, .unset] [(.int (255 : Int32)), (.int (nar .byte (((192 : Int32) ||| (vc >>> ((6 : Int32) &&& 31))).toInt8.toInt32)))]))
    refine OGo.on (fun t k => XS.iand Xh108.here hx rfl (hb hby at_255) rfl k) ?_
    show OGo p e below s _ _ _ (T107.setTop (mkF m 256 #[.val (.int va), .val (.int vb), .val (.int vs_), .val (.int vc), .val (.int vo), .val (.int vf), .val (.ref b53), .val (.int ((vo + (1 : Int32)) + (1 : Int32))), .val (.int (2 : Int32)), .unset, .unset, .unset, .unset] [(.int ((nar .byte (((192 : Int32) ||| (vc >>> ((6 : Int32) &&& 31))).toInt8.toInt32)) &&& (255 : Int32)))]))
    refine OGo.on (fun t k => XS.istore Xh108.here hx rfl (hb hby at_256) rfl (l' := #[.val (.int va), .val (.int vb), .val (.int vs_), .val (.int vc), .val (.int vo), .val (.int vf), .val (.ref b53), .val (.int ((vo + (1 : Int32)) + (1 : Int32))), .val (.int (2 : Int32)), .val (.int ((nar .byte (((192 : Int32) ||| (vc >>> ((6 : Int32) &&& 31))).toInt8.toInt32)) &&& (255 : Int32))), .unset, .unset, .unset]) rfl k) ?_
    show OGo p e below s _ _ _ (T107.setTop (mkF m 258 #[.val (.int va), .val (.int vb), .val (.int vs_), .val (.int vc), .val (.int vo), .val (.int vf), .val (.ref b53), .val (.int ((vo + (1 : Int32)) + (1 : Int32))), .val (.int (2 : Int32)), .val (.int ((nar .byte (((192 : Int32) ||| (vc >>> ((6 : Int32) &&& 31))).toInt8.toInt32)) &&& (255 : Int32))), .unset, .unset, .unset] []))
    generalize hv_r0 : ((nar .byte (((192 : Int32) ||| (vc >>> ((6 : Int32) &&& 31))).toInt8.toInt32)) &&& (255 : Int32)) = r0
    show OGo p e below s _ _ _ (T107.setTop (mkF m 258 #[.val (.int va), .val (.int vb), .val (.int vs_), .val (.int vc), .val (.int vo), .val (.int vf), .val (.ref b53), .val (.int ((vo + (1 : Int32)) + (1 : Int32))), .val (.int (2 : Int32)), .val (.int r0), .unset, .unset, .unset] []))
    refine OGo.on (fun t k => XS.aload Xh108.here hx rfl (hb hby at_258) rfl rfl k) ?_
    show OGo p e below s _ _ _ (T107.setTop (mkF m 260 #[.val (.int va), .val (.int vb), .val (.int vs_), .val (.int vc), .val (.int vo), .val (.int vf), .val (.ref b53), .val (.int ((vo + (1 : Int32)) + (1 : Int32))), .val (.int (2 : Int32)), .val (.int r0), .unset, .unset, .unset] [(.ref b53)]))
    refine OGo.on (fun t k => XS.iload Xh108.here hx rfl (hb hby at_260) rfl k) ?_
    show OGo p e below s _ _ _ (T107.setTop (mkF m 262 #[.val (.int va), .val (.int vb), .val (.int vs_), .val (.int vc), .val (.int vo), .val (.int vf), .val (.ref b53), .val (.int ((vo + (1 : Int32)) + (1 : Int32))), .val (.int (2 : Int32)), .val (.int r0), .unset, .unset, .unset] [(.int vo), (.ref b53)]))
    refine OGo.on (fun t k => XS.iconst Xh108.here hx rfl (hb hby at_262) k) ?_
    show OGo p e below s _ _ _ (T107.setTop (mkF m 263 #[.val (.int va), .val (.int vb), .val (.int vs_), .val (.int vc), .val (.int vo), .val (.int vf), .val (.ref b53), .val (.int ((vo + (1 : Int32)) + (1 : Int32))), .val (.int (2 : Int32)), .val (.int r0), .unset, .unset, .unset] [(.int (1 : Int32)), (.int vo), (.ref b53)]))
    refine OGo.on (fun t k => XS.iadd Xh108.here hx rfl (hb hby at_263) rfl k) ?_
    show OGo p e below s _ _ _ (T107.setTop (mkF m 264 #[.val (.int va), .val (.int vb), .val (.int vs_), .val (.int vc), .val (.int vo), .val (.int vf), .val (.ref b53), .val (.int ((vo + (1 : Int32)) + (1 : Int32))), .val (.int (2 : Int32)), .val (.int r0), .unset, .unset, .unset] [(.int (vo + (1 : Int32))), (.ref b53)]))
    refine OGo.on (fun t k => OAL.baB Xh108 hx hZ e107 V92 (own_rd2 ho vf _ _).2.1 (hb hby at_264) k) ?_
    show OGo p e below s _ _ _ (T107.setTop (mkF m 265 #[.val (.int va), .val (.int vb), .val (.int vs_), .val (.int vc), .val (.int vo), .val (.int vf), .val (.ref b53), .val (.int ((vo + (1 : Int32)) + (1 : Int32))), .val (.int (2 : Int32)), .val (.int r0), .unset, .unset, .unset] [(.int (nar .byte (((128 : Int32) ||| (vc &&& (63 : Int32))).toInt8.toInt32)))]))
    refine OGo.on (fun t k => XS.sipush Xh108.here hx rfl (hb hby at_265) k) ?_
    show OGo p e below s _ _ _ (T107.setTop (mkF m 268 #[.val (.int va), .val (.int vb), .val (.int vs_), .val (.int vc), .val (.int vo), .val (.int vf), .val (.ref b53), .val (.int ((vo + (1 : Int32)) + (1 : Int32))), .val (.int (2 : Int32)), .val (.int r0), .unset, .unset, .unset] [(.int (255 : Int32)), (.int (nar .byte (((128 : Int32) ||| (vc &&& (63 : Int32))).toInt8.toInt32)))]))
    refine OGo.on (fun t k => XS.iand Xh108.here hx rfl (hb hby at_268) rfl k) ?_
    show OGo p e below s _ _ _ (T107.setTop (mkF m 269 #[.val (.int va), .val (.int vb), .val (.int vs_), .val (.int vc), .val (.int vo), .val (.int vf), .val (.ref b53), .val (.int ((vo + (1 : Int32)) + (1 : Int32))), .val (.int (2 : Int32)), .val (.int r0), .unset, .unset, .unset] [(.int ((nar .byte (((128 : Int32) ||| (vc &&& (63 : Int32))).toInt8.toInt32)) &&& (255 : Int32)))]))
    refine OGo.on (fun t k => XS.istore Xh108.here hx rfl (hb hby at_269) rfl (l' := #[.val (.int va), .val (.int vb), .val (.int vs_), .val (.int vc), .val (.int vo), .val (.int vf), .val (.ref b53), .val (.int ((vo + (1 : Int32)) + (1 : Int32))), .val (.int (2 : Int32)), .val (.int r0), .val (.int ((nar .byte (((128 : Int32) ||| (vc &&& (63 : Int32))).toInt8.toInt32)) &&& (255 : Int32))), .unset, .unset]) rfl k) ?_
    show OGo p e below s _ _ _ (T107.setTop (mkF m 271 #[.val (.int va), .val (.int vb), .val (.int vs_), .val (.int vc), .val (.int vo), .val (.int vf), .val (.ref b53), .val (.int ((vo + (1 : Int32)) + (1 : Int32))), .val (.int (2 : Int32)), .val (.int r0), .val (.int ((nar .byte (((128 : Int32) ||| (vc &&& (63 : Int32))).toInt8.toInt32)) &&& (255 : Int32))), .unset, .unset] []))
    generalize hv_r1 : ((nar .byte (((128 : Int32) ||| (vc &&& (63 : Int32))).toInt8.toInt32)) &&& (255 : Int32)) = r1
    show OGo p e below s _ _ _ (T107.setTop (mkF m 271 #[.val (.int va), .val (.int vb), .val (.int vs_), .val (.int vc), .val (.int vo), .val (.int vf), .val (.ref b53), .val (.int ((vo + (1 : Int32)) + (1 : Int32))), .val (.int (2 : Int32)), .val (.int r0), .val (.int r1), .unset, .unset] []))
    refine OGo.on (fun t k => XS.aload Xh108.here hx rfl (hb hby at_271) rfl rfl k) ?_
    show OGo p e below s _ _ _ (T107.setTop (mkF m 273 #[.val (.int va), .val (.int vb), .val (.int vs_), .val (.int vc), .val (.int vo), .val (.int vf), .val (.ref b53), .val (.int ((vo + (1 : Int32)) + (1 : Int32))), .val (.int (2 : Int32)), .val (.int r0), .val (.int r1), .unset, .unset] [(.ref b53)]))
    refine OGo.on (fun t k => XS.iload Xh108.here hx rfl (hb hby at_273) rfl k) ?_
    show OGo p e below s _ _ _ (T107.setTop (mkF m 275 #[.val (.int va), .val (.int vb), .val (.int vs_), .val (.int vc), .val (.int vo), .val (.int vf), .val (.ref b53), .val (.int ((vo + (1 : Int32)) + (1 : Int32))), .val (.int (2 : Int32)), .val (.int r0), .val (.int r1), .unset, .unset] [(.int vo), (.ref b53)]))
    refine OGo.on (fun t k => XS.iconst Xh108.here hx rfl (hb hby at_275) k) ?_
    show OGo p e below s _ _ _ (T107.setTop (mkF m 276 #[.val (.int va), .val (.int vb), .val (.int vs_), .val (.int vc), .val (.int vo), .val (.int vf), .val (.ref b53), .val (.int ((vo + (1 : Int32)) + (1 : Int32))), .val (.int (2 : Int32)), .val (.int r0), .val (.int r1), .unset, .unset] [(.int (2 : Int32)), (.int vo), (.ref b53)]))
    refine OGo.on (fun t k => XS.iadd Xh108.here hx rfl (hb hby at_276) rfl k) ?_
    show OGo p e below s _ _ _ (T107.setTop (mkF m 277 #[.val (.int va), .val (.int vb), .val (.int vs_), .val (.int vc), .val (.int vo), .val (.int vf), .val (.ref b53), .val (.int ((vo + (1 : Int32)) + (1 : Int32))), .val (.int (2 : Int32)), .val (.int r0), .val (.int r1), .unset, .unset] [(.int (vo + (2 : Int32))), (.ref b53)]))
    refine OGo.on (fun t k => OAL.baB Xh108 hx hZ e107 V92 (own_rd2 ho vf _ _).2.2.1 (hb hby at_277) k) ?_
    show OGo p e below s _ _ _ (T107.setTop (mkF m 278 #[.val (.int va), .val (.int vb), .val (.int vs_), .val (.int vc), .val (.int vo), .val (.int vf), .val (.ref b53), .val (.int ((vo + (1 : Int32)) + (1 : Int32))), .val (.int (2 : Int32)), .val (.int r0), .val (.int r1), .unset, .unset] [(.int vf)]))
    refine OGo.on (fun t k => XS.sipush Xh108.here hx rfl (hb hby at_278) k) ?_
    show OGo p e below s _ _ _ (T107.setTop (mkF m 281 #[.val (.int va), .val (.int vb), .val (.int vs_), .val (.int vc), .val (.int vo), .val (.int vf), .val (.ref b53), .val (.int ((vo + (1 : Int32)) + (1 : Int32))), .val (.int (2 : Int32)), .val (.int r0), .val (.int r1), .unset, .unset] [(.int (255 : Int32)), (.int vf)]))
    refine OGo.on (fun t k => XS.iand Xh108.here hx rfl (hb hby at_281) rfl k) ?_
    show OGo p e below s _ _ _ (T107.setTop (mkF m 282 #[.val (.int va), .val (.int vb), .val (.int vs_), .val (.int vc), .val (.int vo), .val (.int vf), .val (.ref b53), .val (.int ((vo + (1 : Int32)) + (1 : Int32))), .val (.int (2 : Int32)), .val (.int r0), .val (.int r1), .unset, .unset] [(.int (vf &&& (255 : Int32)))]))
    refine OGo.on (fun t k => XS.istore Xh108.here hx rfl (hb hby at_282) rfl (l' := #[.val (.int va), .val (.int vb), .val (.int vs_), .val (.int vc), .val (.int vo), .val (.int vf), .val (.ref b53), .val (.int ((vo + (1 : Int32)) + (1 : Int32))), .val (.int (2 : Int32)), .val (.int r0), .val (.int r1), .val (.int (vf &&& (255 : Int32))), .unset]) rfl k) ?_
    show OGo p e below s _ _ _ (T107.setTop (mkF m 284 #[.val (.int va), .val (.int vb), .val (.int vs_), .val (.int vc), .val (.int vo), .val (.int vf), .val (.ref b53), .val (.int ((vo + (1 : Int32)) + (1 : Int32))), .val (.int (2 : Int32)), .val (.int r0), .val (.int r1), .val (.int (vf &&& (255 : Int32))), .unset] []))
    generalize hv_r2 : (vf &&& (255 : Int32)) = r2
    show OGo p e below s _ _ _ (T107.setTop (mkF m 284 #[.val (.int va), .val (.int vb), .val (.int vs_), .val (.int vc), .val (.int vo), .val (.int vf), .val (.ref b53), .val (.int ((vo + (1 : Int32)) + (1 : Int32))), .val (.int (2 : Int32)), .val (.int r0), .val (.int r1), .val (.int r2), .unset] []))
    refine OGo.on (fun t k => XS.aload Xh108.here hx rfl (hb hby at_284) rfl rfl k) ?_
    show OGo p e below s _ _ _ (T107.setTop (mkF m 286 #[.val (.int va), .val (.int vb), .val (.int vs_), .val (.int vc), .val (.int vo), .val (.int vf), .val (.ref b53), .val (.int ((vo + (1 : Int32)) + (1 : Int32))), .val (.int (2 : Int32)), .val (.int r0), .val (.int r1), .val (.int r2), .unset] [(.ref b53)]))
    refine OGo.on (fun t k => XS.iload Xh108.here hx rfl (hb hby at_286) rfl k) ?_
    show OGo p e below s _ _ _ (T107.setTop (mkF m 288 #[.val (.int va), .val (.int vb), .val (.int vs_), .val (.int vc), .val (.int vo), .val (.int vf), .val (.ref b53), .val (.int ((vo + (1 : Int32)) + (1 : Int32))), .val (.int (2 : Int32)), .val (.int r0), .val (.int r1), .val (.int r2), .unset] [(.int vo), (.ref b53)]))
    refine OGo.on (fun t k => XS.iconst Xh108.here hx rfl (hb hby at_288) k) ?_
    show OGo p e below s _ _ _ (T107.setTop (mkF m 289 #[.val (.int va), .val (.int vb), .val (.int vs_), .val (.int vc), .val (.int vo), .val (.int vf), .val (.ref b53), .val (.int ((vo + (1 : Int32)) + (1 : Int32))), .val (.int (2 : Int32)), .val (.int r0), .val (.int r1), .val (.int r2), .unset] [(.int (3 : Int32)), (.int vo), (.ref b53)]))
    refine OGo.on (fun t k => XS.iadd Xh108.here hx rfl (hb hby at_289) rfl k) ?_
    show OGo p e below s _ _ _ (T107.setTop (mkF m 290 #[.val (.int va), .val (.int vb), .val (.int vs_), .val (.int vc), .val (.int vo), .val (.int vf), .val (.ref b53), .val (.int ((vo + (1 : Int32)) + (1 : Int32))), .val (.int (2 : Int32)), .val (.int r0), .val (.int r1), .val (.int r2), .unset] [(.int (vo + (3 : Int32))), (.ref b53)]))
    refine OGo.on (fun t k => OAL.baB Xh108 hx hZ e107 V92 (own_rd2 ho vf _ _).2.2.2 (hb hby at_290) k) ?_
    show OGo p e below s _ _ _ (T107.setTop (mkF m 291 #[.val (.int va), .val (.int vb), .val (.int vs_), .val (.int vc), .val (.int vo), .val (.int vf), .val (.ref b53), .val (.int ((vo + (1 : Int32)) + (1 : Int32))), .val (.int (2 : Int32)), .val (.int r0), .val (.int r1), .val (.int r2), .unset] [(.int vf)]))
    refine OGo.on (fun t k => XS.sipush Xh108.here hx rfl (hb hby at_291) k) ?_
    show OGo p e below s _ _ _ (T107.setTop (mkF m 294 #[.val (.int va), .val (.int vb), .val (.int vs_), .val (.int vc), .val (.int vo), .val (.int vf), .val (.ref b53), .val (.int ((vo + (1 : Int32)) + (1 : Int32))), .val (.int (2 : Int32)), .val (.int r0), .val (.int r1), .val (.int r2), .unset] [(.int (255 : Int32)), (.int vf)]))
    refine OGo.on (fun t k => XS.iand Xh108.here hx rfl (hb hby at_294) rfl k) ?_
    show OGo p e below s _ _ _ (T107.setTop (mkF m 295 #[.val (.int va), .val (.int vb), .val (.int vs_), .val (.int vc), .val (.int vo), .val (.int vf), .val (.ref b53), .val (.int ((vo + (1 : Int32)) + (1 : Int32))), .val (.int (2 : Int32)), .val (.int r0), .val (.int r1), .val (.int r2), .unset] [(.int (vf &&& (255 : Int32)))]))
    refine OGo.on (fun t k => XS.istore Xh108.here hx rfl (hb hby at_295) rfl (l' := #[.val (.int va), .val (.int vb), .val (.int vs_), .val (.int vc), .val (.int vo), .val (.int vf), .val (.ref b53), .val (.int ((vo + (1 : Int32)) + (1 : Int32))), .val (.int (2 : Int32)), .val (.int r0), .val (.int r1), .val (.int r2), .val (.int (vf &&& (255 : Int32)))]) rfl k) ?_
    show OGo p e below s _ _ _ (T107.setTop (mkF m 297 #[.val (.int va), .val (.int vb), .val (.int vs_), .val (.int vc), .val (.int vo), .val (.int vf), .val (.ref b53), .val (.int ((vo + (1 : Int32)) + (1 : Int32))), .val (.int (2 : Int32)), .val (.int r0), .val (.int r1), .val (.int r2), .val (.int (vf &&& (255 : Int32)))] []))
    generalize hv_r3 : (vf &&& (255 : Int32)) = r3
    show OGo p e below s _ _ _ (T107.setTop (mkF m 297 #[.val (.int va), .val (.int vb), .val (.int vs_), .val (.int vc), .val (.int vo), .val (.int vf), .val (.ref b53), .val (.int ((vo + (1 : Int32)) + (1 : Int32))), .val (.int (2 : Int32)), .val (.int r0), .val (.int r1), .val (.int r2), .val (.int r3)] []))
    have e0 : n32 r0 = 192 + n32 vc / 64 := by rw [← hv_r0]; exact own_ld vc ((6 : Int32) &&& 31) 192 (k := 6) (M := 192) (j := 5) (q := 6) (by omega) (by decide) (by decide) (by decide) (by decide) (by omega)
    have e1 : n32 r1 = 128 + n32 vc % 64 := by rw [← hv_r1]; exact own_ct0 vc (by omega)
    refine OGo.on (fun t k => XS.iload Xh108.here hx rfl (hb hby at_297) rfl k) ?_
    show OGo p e below s _ _ _ (T107.setTop (mkF m 299 #[.val (.int va), .val (.int vb), .val (.int vs_), .val (.int vc), .val (.int vo), .val (.int vf), .val (.ref b53), .val (.int ((vo + (1 : Int32)) + (1 : Int32))), .val (.int (2 : Int32)), .val (.int r0), .val (.int r1), .val (.int r2), .val (.int r3)] [(.int (2 : Int32))]))
    refine OGo.on (fun t k => XS.iconst Xh108.here hx rfl (hb hby at_299) k) ?_
    show OGo p e below s _ _ _ (T107.setTop (mkF m 300 #[.val (.int va), .val (.int vb), .val (.int vs_), .val (.int vc), .val (.int vo), .val (.int vf), .val (.ref b53), .val (.int ((vo + (1 : Int32)) + (1 : Int32))), .val (.int (2 : Int32)), .val (.int r0), .val (.int r1), .val (.int r2), .val (.int r3)] [(.int (2 : Int32)), (.int (2 : Int32))]))
    refine OGo.on (fun t k => XS.icmpNo Xh108.here hx rfl (hb hby at_300) rfl (teq (by decide)).2 k) ?_
    show OGo p e below s _ _ _ (T107.setTop (mkF m 303 #[.val (.int va), .val (.int vb), .val (.int vs_), .val (.int vc), .val (.int vo), .val (.int vf), .val (.ref b53), .val (.int ((vo + (1 : Int32)) + (1 : Int32))), .val (.int (2 : Int32)), .val (.int r0), .val (.int r1), .val (.int r2), .val (.int r3)] []))
    refine OGo.on (fun t k => XS.iload Xh108.here hx rfl (hb hby at_303) rfl k) ?_
    show OGo p e below s _ _ _ (T107.setTop (mkF m 305 #[.val (.int va), .val (.int vb), .val (.int vs_), .val (.int vc), .val (.int vo), .val (.int vf), .val (.ref b53), .val (.int ((vo + (1 : Int32)) + (1 : Int32))), .val (.int (2 : Int32)), .val (.int r0), .val (.int r1), .val (.int r2), .val (.int r3)] [(.int r0)]))
    refine OGo.on (fun t k => XS.sipush Xh108.here hx rfl (hb hby at_305) k) ?_
    show OGo p e below s _ _ _ (T107.setTop (mkF m 308 #[.val (.int va), .val (.int vb), .val (.int vs_), .val (.int vc), .val (.int vo), .val (.int vf), .val (.ref b53), .val (.int ((vo + (1 : Int32)) + (1 : Int32))), .val (.int (2 : Int32)), .val (.int r0), .val (.int r1), .val (.int r2), .val (.int r3)] [(.int (224 : Int32)), (.int r0)]))
    refine OGo.on (fun t k => XS.iand Xh108.here hx rfl (hb hby at_308) rfl k) ?_
    show OGo p e below s _ _ _ (T107.setTop (mkF m 309 #[.val (.int va), .val (.int vb), .val (.int vs_), .val (.int vc), .val (.int vo), .val (.int vf), .val (.ref b53), .val (.int ((vo + (1 : Int32)) + (1 : Int32))), .val (.int (2 : Int32)), .val (.int r0), .val (.int r1), .val (.int r2), .val (.int r3)] [(.int (r0 &&& (224 : Int32)))]))
    refine OGo.on (fun t k => XS.sipush Xh108.here hx rfl (hb hby at_309) k) ?_
    show OGo p e below s _ _ _ (T107.setTop (mkF m 312 #[.val (.int va), .val (.int vb), .val (.int vs_), .val (.int vc), .val (.int vo), .val (.int vf), .val (.ref b53), .val (.int ((vo + (1 : Int32)) + (1 : Int32))), .val (.int (2 : Int32)), .val (.int r0), .val (.int r1), .val (.int r2), .val (.int r3)] [(.int (192 : Int32)), (.int (r0 &&& (224 : Int32)))]))
    refine OGo.on (fun t k => XS.icmpNo Xh108.here hx rfl (hb hby at_312) rfl (teq (own_hd2 e0 (by omega)).1).2 k) ?_
    show OGo p e below s _ _ _ (T107.setTop (mkF m 315 #[.val (.int va), .val (.int vb), .val (.int vs_), .val (.int vc), .val (.int vo), .val (.int vf), .val (.ref b53), .val (.int ((vo + (1 : Int32)) + (1 : Int32))), .val (.int (2 : Int32)), .val (.int r0), .val (.int r1), .val (.int r2), .val (.int r3)] []))
    refine OGo.on (fun t k => XS.iload Xh108.here hx rfl (hb hby at_315) rfl k) ?_
    show OGo p e below s _ _ _ (T107.setTop (mkF m 317 #[.val (.int va), .val (.int vb), .val (.int vs_), .val (.int vc), .val (.int vo), .val (.int vf), .val (.ref b53), .val (.int ((vo + (1 : Int32)) + (1 : Int32))), .val (.int (2 : Int32)), .val (.int r0), .val (.int r1), .val (.int r2), .val (.int r3)] [(.int r1)]))
    obtain ⟨_, _, ⟨T109, L109, k109, n109⟩, -, X109, ⟨Lc109, hQ109, l109, y109, z109⟩, st109⟩ := Jvm.LawKit.callS Xh108 hx (y := (⟨"com/example/libmsgframe/libmsgframe/Utf8PutBeyondAsciiPinLaw", "cont", "(I)Z"⟩ : MethodName)) hown (mvT hZ (hw _ (List.mem_of_getElem? (i := 11) rfl))) (mvT hZ (hw _ (List.mem_of_getElem? (i := 12) rfl))) (mvT hZ (hw _ (List.mem_of_getElem? (i := 9) rfl))) (mvT hZ (hw _ (List.mem_of_getElem? (i := 13) rfl))) (by decide) (backOf (W := 0) (own_mcont l Z a0 hw [] r1 T88.heap n0 Z89) hZ (hw _ (List.mem_of_getElem? (i := 13) rfl)) (hw _ (List.mem_of_getElem? (i := 9) rfl)) (by decide) (by decide)) (g := (mkF m 317 #[.val (.int va), .val (.int vb), .val (.int vs_), .val (.int vc), .val (.int vo), .val (.int vf), .val (.ref b53), .val (.int ((vo + (1 : Int32)) + (1 : Int32))), .val (.int (2 : Int32)), .val (.int r0), .val (.int r1), .val (.int r2), .val (.int r3)] [(.int r1)])) rfl (by rw [hml]; rfl) (argsL := [(.int r1)]) (rest := []) (lenOf own_pd2 rfl) rfl (by show 2 * 0 + _ ≤ _; exact Nat.le_of_eq rfl) (hb hby at_317) (fun _ _ => ⟨rfl, e107, (by decide : 1 + 0 ≤ _), (by decide : 8 + 0 ≤ _)⟩)
    dsimp only [Pt.U, Pt.locs, Pt.cells, Pt.slots] at X109 l109 y109 z109 st109 hQ109
    subst l109 y109 z109
    obtain ⟨rfl, N109q, e109⟩ := hQ109
    have N109 := Fr.app Nh108 N109q
    obtain ⟨Lh110, Xh110, Nh110⟩ := own_hide X109 N109
    refine OGo.on st109 ?_
    show OGo p e below s _ _ _ (T109.setTop (mkF m 320 #[.val (.int va), .val (.int vb), .val (.int vs_), .val (.int vc), .val (.int vo), .val (.int vf), .val (.ref b53), .val (.int ((vo + (1 : Int32)) + (1 : Int32))), .val (.int (2 : Int32)), .val (.int r0), .val (.int r1), .val (.int r2), .val (.int r3)] [(.int (own_cont r1))]))
    refine OGo.on (fun t k => XS.ifNo Xh110.here hx rfl (hb hby at_320) rfl ((if0 _ _).trans (feq (own_cont1 e1 (by omega))).1) k) ?_
    show OGo p e below s _ _ _ (T109.setTop (mkF m 323 #[.val (.int va), .val (.int vb), .val (.int vs_), .val (.int vc), .val (.int vo), .val (.int vf), .val (.ref b53), .val (.int ((vo + (1 : Int32)) + (1 : Int32))), .val (.int (2 : Int32)), .val (.int r0), .val (.int r1), .val (.int r2), .val (.int r3)] []))
    refine OGo.on (fun t k => XS.iload Xh110.here hx rfl (hb hby at_323) rfl k) ?_
    show OGo p e below s _ _ _ (T109.setTop (mkF m 325 #[.val (.int va), .val (.int vb), .val (.int vs_), .val (.int vc), .val (.int vo), .val (.int vf), .val (.ref b53), .val (.int ((vo + (1 : Int32)) + (1 : Int32))), .val (.int (2 : Int32)), .val (.int r0), .val (.int r1), .val (.int r2), .val (.int r3)] [(.int r0)]))
    refine OGo.on (fun t k => XS.bipush Xh110.here hx rfl (hb hby at_325) k) ?_
    show OGo p e below s _ _ _ (T109.setTop (mkF m 327 #[.val (.int va), .val (.int vb), .val (.int vs_), .val (.int vc), .val (.int vo), .val (.int vf), .val (.ref b53), .val (.int ((vo + (1 : Int32)) + (1 : Int32))), .val (.int (2 : Int32)), .val (.int r0), .val (.int r1), .val (.int r2), .val (.int r3)] [(.int (31 : Int32)), (.int r0)]))
    refine OGo.on (fun t k => XS.iand Xh110.here hx rfl (hb hby at_327) rfl k) ?_
    show OGo p e below s _ _ _ (T109.setTop (mkF m 328 #[.val (.int va), .val (.int vb), .val (.int vs_), .val (.int vc), .val (.int vo), .val (.int vf), .val (.ref b53), .val (.int ((vo + (1 : Int32)) + (1 : Int32))), .val (.int (2 : Int32)), .val (.int r0), .val (.int r1), .val (.int r2), .val (.int r3)] [(.int (r0 &&& (31 : Int32)))]))
    refine OGo.on (fun t k => XS.bipush Xh110.here hx rfl (hb hby at_328) k) ?_
    show OGo p e below s _ _ _ (T109.setTop (mkF m 330 #[.val (.int va), .val (.int vb), .val (.int vs_), .val (.int vc), .val (.int vo), .val (.int vf), .val (.ref b53), .val (.int ((vo + (1 : Int32)) + (1 : Int32))), .val (.int (2 : Int32)), .val (.int r0), .val (.int r1), .val (.int r2), .val (.int r3)] [(.int (6 : Int32)), (.int (r0 &&& (31 : Int32)))]))
    refine OGo.on (fun t k => XS.ishl Xh110.here hx rfl (hb hby at_330) rfl k) ?_
    show OGo p e below s _ _ _ (T109.setTop (mkF m 331 #[.val (.int va), .val (.int vb), .val (.int vs_), .val (.int vc), .val (.int vo), .val (.int vf), .val (.ref b53), .val (.int ((vo + (1 : Int32)) + (1 : Int32))), .val (.int (2 : Int32)), .val (.int r0), .val (.int r1), .val (.int r2), .val (.int r3)] [(.int ((r0 &&& (31 : Int32)) <<< ((6 : Int32) &&& 31)))]))
    refine OGo.on (fun t k => XS.iload Xh110.here hx rfl (hb hby at_331) rfl k) ?_
    show OGo p e below s _ _ _ (T109.setTop (mkF m 333 #[.val (.int va), .val (.int vb), .val (.int vs_), .val (.int vc), .val (.int vo), .val (.int vf), .val (.ref b53), .val (.int ((vo + (1 : Int32)) + (1 : Int32))), .val (.int (2 : Int32)), .val (.int r0), .val (.int r1), .val (.int r2), .val (.int r3)] [(.int r1), (.int ((r0 &&& (31 : Int32)) <<< ((6 : Int32) &&& 31)))]))
    refine OGo.on (fun t k => XS.bipush Xh110.here hx rfl (hb hby at_333) k) ?_
    show OGo p e below s _ _ _ (T109.setTop (mkF m 335 #[.val (.int va), .val (.int vb), .val (.int vs_), .val (.int vc), .val (.int vo), .val (.int vf), .val (.ref b53), .val (.int ((vo + (1 : Int32)) + (1 : Int32))), .val (.int (2 : Int32)), .val (.int r0), .val (.int r1), .val (.int r2), .val (.int r3)] [(.int (63 : Int32)), (.int r1), (.int ((r0 &&& (31 : Int32)) <<< ((6 : Int32) &&& 31)))]))
    refine OGo.on (fun t k => XS.iand Xh110.here hx rfl (hb hby at_335) rfl k) ?_
    show OGo p e below s _ _ _ (T109.setTop (mkF m 336 #[.val (.int va), .val (.int vb), .val (.int vs_), .val (.int vc), .val (.int vo), .val (.int vf), .val (.ref b53), .val (.int ((vo + (1 : Int32)) + (1 : Int32))), .val (.int (2 : Int32)), .val (.int r0), .val (.int r1), .val (.int r2), .val (.int r3)] [(.int (r1 &&& (63 : Int32))), (.int ((r0 &&& (31 : Int32)) <<< ((6 : Int32) &&& 31)))]))
    refine OGo.on (fun t k => XS.ior Xh110.here hx rfl (hb hby at_336) rfl k) ?_
    show OGo p e below s _ _ _ (T109.setTop (mkF m 337 #[.val (.int va), .val (.int vb), .val (.int vs_), .val (.int vc), .val (.int vo), .val (.int vf), .val (.ref b53), .val (.int ((vo + (1 : Int32)) + (1 : Int32))), .val (.int (2 : Int32)), .val (.int r0), .val (.int r1), .val (.int r2), .val (.int r3)] [(.int (((r0 &&& (31 : Int32)) <<< ((6 : Int32) &&& 31)) ||| (r1 &&& (63 : Int32))))]))
    refine OGo.on (fun t k => XS.iloadN Xh110.here hx rfl (hb hby at_337) rfl k) ?_
    show OGo p e below s _ _ _ (T109.setTop (mkF m 338 #[.val (.int va), .val (.int vb), .val (.int vs_), .val (.int vc), .val (.int vo), .val (.int vf), .val (.ref b53), .val (.int ((vo + (1 : Int32)) + (1 : Int32))), .val (.int (2 : Int32)), .val (.int r0), .val (.int r1), .val (.int r2), .val (.int r3)] [(.int vc), (.int (((r0 &&& (31 : Int32)) <<< ((6 : Int32) &&& 31)) ||| (r1 &&& (63 : Int32))))]))
    refine OGo.on (fun t k => XS.icmpNo Xh110.here hx rfl (hb hby at_338) rfl (teq (own_a2 (own_hd2 e0 (by omega)).2 (own_low e1 (by omega)) hN)).2 k) ?_
    show OGo p e below s _ _ _ (T109.setTop (mkF m 341 #[.val (.int va), .val (.int vb), .val (.int vs_), .val (.int vc), .val (.int vo), .val (.int vf), .val (.ref b53), .val (.int ((vo + (1 : Int32)) + (1 : Int32))), .val (.int (2 : Int32)), .val (.int r0), .val (.int r1), .val (.int r2), .val (.int r3)] []))
    refine OGo.on (fun t k => XS.iconst Xh110.here hx rfl (hb hby at_341) k) ?_
    show OGo p e below s _ _ _ (T109.setTop (mkF m 342 #[.val (.int va), .val (.int vb), .val (.int vs_), .val (.int vc), .val (.int vo), .val (.int vf), .val (.ref b53), .val (.int ((vo + (1 : Int32)) + (1 : Int32))), .val (.int (2 : Int32)), .val (.int r0), .val (.int r1), .val (.int r2), .val (.int r3)] [(.int (1 : Int32))]))
    refine OGo.on (fun t k => XS.goto Xh110.here hx rfl (pc0 := 342) (pc' := 346) rfl (hb hby at_342) (by decide) (by decide) k) ?_
    show OGo p e below s _ _ _ (T109.setTop (mkF m 346 #[.val (.int va), .val (.int vb), .val (.int vs_), .val (.int vc), .val (.int vo), .val (.int vf), .val (.ref b53), .val (.int ((vo + (1 : Int32)) + (1 : Int32))), .val (.int (2 : Int32)), .val (.int r0), .val (.int r1), .val (.int r2), .val (.int r3)] [(.int (1 : Int32))]))
    exact OGo.retN Xh110 hx (t := .boolean) hret hlk (by simp) (hb hby at_346) ⟨rfl, Nh110⟩ (by decide) (by decide)
  · refine OGo.on (fun t k => XS.icmpYes Xh90.here hx rfl (pc0 := 91) (pc' := 98) rfl (hb hby at_91) rfl (flt hc91).2.1 (by decide) (by decide) k) ?_
    show OGo p e below s _ _ _ (T88.setTop (mkF m 98 #[.val (.int va), .val (.int vb), .val (.int vs_), .val (.int vc), .val (.int vo), .val (.int vf), .val (.ref b53), .val (.int (own_end vo vc)), .unset, .unset, .unset, .unset, .unset] []))
    refine OGo.on (fun t k => XS.iloadN Xh90.here hx rfl (hb hby at_98) rfl k) ?_
    show OGo p e below s _ _ _ (T88.setTop (mkF m 99 #[.val (.int va), .val (.int vb), .val (.int vs_), .val (.int vc), .val (.int vo), .val (.int vf), .val (.ref b53), .val (.int (own_end vo vc)), .unset, .unset, .unset, .unset, .unset] [(.int vc)]))
    refine OGo.on (fun t k => Xh90.ldcI hx hown (mvT hZ (hw _ (List.mem_of_getElem? (i := 15) rfl))) (g := (mkF m 99 #[.val (.int va), .val (.int vb), .val (.int vs_), .val (.int vc), .val (.int vo), .val (.int vf), .val (.ref b53), .val (.int (own_end vo vc)), .unset, .unset, .unset, .unset, .unset] [(.int vc)])) rfl (hb hby at_99) k) ?_
    show OGo p e below s _ _ _ (T88.setTop (mkF m 101 #[.val (.int va), .val (.int vb), .val (.int vs_), .val (.int vc), .val (.int vo), .val (.int vf), .val (.ref b53), .val (.int (own_end vo vc)), .unset, .unset, .unset, .unset, .unset] [(.int (65536 : Int32)), (.int vc)]))
    by_cases hc111 : vc < (65536 : Int32)
    · refine OGo.on (fun t k => XS.icmpNo Xh90.here hx rfl (hb hby at_101) rfl (tlt hc111).2.1 k) ?_
      show OGo p e below s _ _ _ (T88.setTop (mkF m 104 #[.val (.int va), .val (.int vb), .val (.int vs_), .val (.int vc), .val (.int vo), .val (.int vf), .val (.ref b53), .val (.int (own_end vo vc)), .unset, .unset, .unset, .unset, .unset] []))
      refine OGo.on (fun t k => XS.iconst Xh90.here hx rfl (hb hby at_104) k) ?_
      show OGo p e below s _ _ _ (T88.setTop (mkF m 105 #[.val (.int va), .val (.int vb), .val (.int vs_), .val (.int vc), .val (.int vo), .val (.int vf), .val (.ref b53), .val (.int (own_end vo vc)), .unset, .unset, .unset, .unset, .unset] [(.int (3 : Int32))]))
      refine OGo.on (fun t k => XS.goto Xh90.here hx rfl (pc0 := 105) (pc' := 109) rfl (hb hby at_105) (by decide) (by decide) k) ?_
      show OGo p e below s _ _ _ (T88.setTop (mkF m 109 #[.val (.int va), .val (.int vb), .val (.int vs_), .val (.int vc), .val (.int vo), .val (.int vf), .val (.ref b53), .val (.int (own_end vo vc)), .unset, .unset, .unset, .unset, .unset] [(.int (3 : Int32))]))
      have V112 : OAL Z T88.heap b53 .byte ((([vf, vf, vf, vf, vf, vf, vf, vf].set vo.toNatClampNeg (nar .byte (((224 : Int32) ||| (vc >>> ((12 : Int32) &&& 31))).toInt8.toInt32))).set (vo + (1 : Int32)).toNatClampNeg (nar .byte (((128 : Int32) ||| ((vc >>> ((6 : Int32) &&& 31)) &&& (63 : Int32))).toInt8.toInt32))).set ((vo + (1 : Int32)) + (1 : Int32)).toNatClampNeg (nar .byte (((128 : Int32) ||| (vc &&& (63 : Int32))).toInt8.toInt32))) := by have q := A88; rw [own_wr3 hc91 hc111] at q; exact q
      rw [own_end3 hc91 hc111]
      show OGo p e below s _ _ _ (T88.setTop (mkF m 109 #[.val (.int va), .val (.int vb), .val (.int vs_), .val (.int vc), .val (.int vo), .val (.int vf), .val (.ref b53), .val (.int (((vo + (1 : Int32)) + (1 : Int32)) + (1 : Int32))), .unset, .unset, .unset, .unset, .unset] [(.int (3 : Int32))]))
      have hM : 2048 ≤ n32 vc := Nat.le_of_not_lt fun q => hc91 ((own_ltN (n := 2048) (by omega) (by decide)).mpr q)
      have hN : n32 vc < 65536 := (own_ltN (n := 65536) (by omega) (by decide)).mp hc111
      refine OGo.on (fun t k => XS.istore Xh90.here hx rfl (hb hby at_109) rfl (l' := #[.val (.int va), .val (.int vb), .val (.int vs_), .val (.int vc), .val (.int vo), .val (.int vf), .val (.ref b53), .val (.int (((vo + (1 : Int32)) + (1 : Int32)) + (1 : Int32))), .val (.int (3 : Int32)), .unset, .unset, .unset, .unset]) rfl k) ?_
      show OGo p e below s _ _ _ (T88.setTop (mkF m 111 #[.val (.int va), .val (.int vb), .val (.int vs_), .val (.int vc), .val (.int vo), .val (.int vf), .val (.ref b53), .val (.int (((vo + (1 : Int32)) + (1 : Int32)) + (1 : Int32))), .val (.int (3 : Int32)), .unset, .unset, .unset, .unset] []))
      refine OGo.on (fun t k => XS.iload Xh90.here hx rfl (hb hby at_111) rfl k) ?_
      show OGo p e below s _ _ _ (T88.setTop (mkF m 113 #[.val (.int va), .val (.int vb), .val (.int vs_), .val (.int vc), .val (.int vo), .val (.int vf), .val (.ref b53), .val (.int (((vo + (1 : Int32)) + (1 : Int32)) + (1 : Int32))), .val (.int (3 : Int32)), .unset, .unset, .unset, .unset] [(.int (((vo + (1 : Int32)) + (1 : Int32)) + (1 : Int32)))]))
      refine OGo.on (fun t k => XS.iload Xh90.here hx rfl (hb hby at_113) rfl k) ?_
      show OGo p e below s _ _ _ (T88.setTop (mkF m 115 #[.val (.int va), .val (.int vb), .val (.int vs_), .val (.int vc), .val (.int vo), .val (.int vf), .val (.ref b53), .val (.int (((vo + (1 : Int32)) + (1 : Int32)) + (1 : Int32))), .val (.int (3 : Int32)), .unset, .unset, .unset, .unset] [(.int vo), (.int (((vo + (1 : Int32)) + (1 : Int32)) + (1 : Int32)))]))
      refine OGo.on (fun t k => XS.iload Xh90.here hx rfl (hb hby at_115) rfl k) ?_
      show OGo p e below s _ _ _ (T88.setTop (mkF m 117 #[.val (.int va), .val (.int vb), .val (.int vs_), .val (.int vc), .val (.int vo), .val (.int vf), .val (.ref b53), .val (.int (((vo + (1 : Int32)) + (1 : Int32)) + (1 : Int32))), .val (.int (3 : Int32)), .unset, .unset, .unset, .unset] [(.int (3 : Int32)), (.int vo), (.int (((vo + (1 : Int32)) + (1 : Int32)) + (1 : Int32)))]))
      refine OGo.on (fun t k => XS.iadd Xh90.here hx rfl (hb hby at_117) rfl k) ?_
      show OGo p e below s _ _ _ (T88.setTop (mkF m 118 #[.val (.int va), .val (.int vb), .val (.int vs_), .val (.int vc), .val (.int vo), .val (.int vf), .val (.ref b53), .val (.int (((vo + (1 : Int32)) + (1 : Int32)) + (1 : Int32))), .val (.int (3 : Int32)), .unset, .unset, .unset, .unset] [(.int (vo + (3 : Int32))), (.int (((vo + (1 : Int32)) + (1 : Int32)) + (1 : Int32)))]))
      refine OGo.on (fun t k => XS.icmpYes Xh90.here hx rfl (pc0 := 118) (pc' := 123) rfl (hb hby at_118) rfl (teq (own_x (P := fun o => (((o + (1 : Int32)) + (1 : Int32)) + (1 : Int32)) = (o + (3 : Int32))) ho (by decide))).1 (by decide) (by decide) k) ?_
      show OGo p e below s _ _ _ (T88.setTop (mkF m 123 #[.val (.int va), .val (.int vb), .val (.int vs_), .val (.int vc), .val (.int vo), .val (.int vf), .val (.ref b53), .val (.int (((vo + (1 : Int32)) + (1 : Int32)) + (1 : Int32))), .val (.int (3 : Int32)), .unset, .unset, .unset, .unset] []))
      refine OGo.on (fun t k => XS.aload Xh90.here hx rfl (hb hby at_123) rfl rfl k) ?_
      show OGo p e below s _ _ _ (T88.setTop (mkF m 125 #[.val (.int va), .val (.int vb), .val (.int vs_), .val (.int vc), .val (.int vo), .val (.int vf), .val (.ref b53), .val (.int (((vo + (1 : Int32)) + (1 : Int32)) + (1 : Int32))), .val (.int (3 : Int32)), .unset, .unset, .unset, .unset] [(.ref b53)]))
      refine OGo.on (fun t k => XS.iconst Xh90.here hx rfl (hb hby at_125) k) ?_
      show OGo p e below s _ _ _ (T88.setTop (mkF m 126 #[.val (.int va), .val (.int vb), .val (.int vs_), .val (.int vc), .val (.int vo), .val (.int vf), .val (.ref b53), .val (.int (((vo + (1 : Int32)) + (1 : Int32)) + (1 : Int32))), .val (.int (3 : Int32)), .unset, .unset, .unset, .unset] [(.int (0 : Int32)), (.ref b53)]))
      refine OGo.on (fun t k => XS.iload Xh90.here hx rfl (hb hby at_126) rfl k) ?_
      show OGo p e below s _ _ _ (T88.setTop (mkF m 128 #[.val (.int va), .val (.int vb), .val (.int vs_), .val (.int vc), .val (.int vo), .val (.int vf), .val (.ref b53), .val (.int (((vo + (1 : Int32)) + (1 : Int32)) + (1 : Int32))), .val (.int (3 : Int32)), .unset, .unset, .unset, .unset] [(.int vo), (.int (0 : Int32)), (.ref b53)]))
      refine OGo.on (fun t k => XS.iload Xh90.here hx rfl (hb hby at_128) rfl k) ?_
      show OGo p e below s _ _ _ (T88.setTop (mkF m 130 #[.val (.int va), .val (.int vb), .val (.int vs_), .val (.int vc), .val (.int vo), .val (.int vf), .val (.ref b53), .val (.int (((vo + (1 : Int32)) + (1 : Int32)) + (1 : Int32))), .val (.int (3 : Int32)), .unset, .unset, .unset, .unset] [(.int (((vo + (1 : Int32)) + (1 : Int32)) + (1 : Int32))), (.int vo), (.int (0 : Int32)), (.ref b53)]))
      refine OGo.on (fun t k => XS.iload Xh90.here hx rfl (hb hby at_130) rfl k) ?_
      show OGo p e below s _ _ _ (T88.setTop (mkF m 132 #[.val (.int va), .val (.int vb), .val (.int vs_), .val (.int vc), .val (.int vo), .val (.int vf), .val (.ref b53), .val (.int (((vo + (1 : Int32)) + (1 : Int32)) + (1 : Int32))), .val (.int (3 : Int32)), .unset, .unset, .unset, .unset] [(.int vf), (.int (((vo + (1 : Int32)) + (1 : Int32)) + (1 : Int32))), (.int vo), (.int (0 : Int32)), (.ref b53)]))
      obtain ⟨w113, hq113, hk113⟩ := own_kp3 ho vf _ _ _ 0 (by decide)
      obtain ⟨_, _, ⟨T113, L113, k113, n113⟩, -, X113, ⟨Lc113, hQ113, l113, y113, z113⟩, st113⟩ := Jvm.LawKit.callS Xh90 hx (y := (⟨"com/example/libmsgframe/libmsgframe/Utf8PutBeyondAsciiPinLaw", "kept", "([BIIIB)Z"⟩ : MethodName)) hown (mvT hZ (hw _ (List.mem_of_getElem? (i := 7) rfl))) (mvT hZ (hw _ (List.mem_of_getElem? (i := 8) rfl))) (mvT hZ (hw _ (List.mem_of_getElem? (i := 9) rfl))) (mvT hZ (hw _ (List.mem_of_getElem? (i := 10) rfl))) (by decide) (backOf (W := 0) (own_mkept l Z a0 hw [] b53 (0 : Int32) vo (((vo + (1 : Int32)) + (1 : Int32)) + (1 : Int32)) vf w113 _ T88.heap n0 Z89 V112 hq113) hZ (hw _ (List.mem_of_getElem? (i := 10) rfl)) (hw _ (List.mem_of_getElem? (i := 9) rfl)) (by decide) (by decide)) (g := (mkF m 132 #[.val (.int va), .val (.int vb), .val (.int vs_), .val (.int vc), .val (.int vo), .val (.int vf), .val (.ref b53), .val (.int (((vo + (1 : Int32)) + (1 : Int32)) + (1 : Int32))), .val (.int (3 : Int32)), .unset, .unset, .unset, .unset] [(.int vf), (.int (((vo + (1 : Int32)) + (1 : Int32)) + (1 : Int32))), (.int vo), (.int (0 : Int32)), (.ref b53)])) rfl (by rw [hml]; rfl) (argsL := [(.ref b53), (.int (0 : Int32)), (.int vo), (.int (((vo + (1 : Int32)) + (1 : Int32)) + (1 : Int32))), (.int vf)]) (rest := []) (lenOf own_pd1 rfl) rfl (by show 2 * 0 + _ ≤ _; exact Nat.le_of_eq rfl) (hb hby at_132) (fun _ _ => ⟨rfl, eh88, (by decide : 1 + 0 ≤ _), (by decide : 8 + 0 ≤ _)⟩)
      dsimp only [Pt.U, Pt.locs, Pt.cells, Pt.slots] at X113 l113 y113 z113 st113 hQ113
      subst l113 y113 z113
      obtain ⟨rfl, N113q, e113⟩ := hQ113
      have N113 := Fr.app Nh90 N113q
      obtain ⟨Lh114, Xh114, Nh114⟩ := own_hide X113 N113
      refine OGo.on st113 ?_
      show OGo p e below s _ _ _ (T113.setTop (mkF m 135 #[.val (.int va), .val (.int vb), .val (.int vs_), .val (.int vc), .val (.int vo), .val (.int vf), .val (.ref b53), .val (.int (((vo + (1 : Int32)) + (1 : Int32)) + (1 : Int32))), .val (.int (3 : Int32)), .unset, .unset, .unset, .unset] [(.int (own_kept w113 (0 : Int32) vo (((vo + (1 : Int32)) + (1 : Int32)) + (1 : Int32)) vf))]))
      refine OGo.on (fun t k => XS.ifNo Xh114.here hx rfl (hb hby at_135) rfl ((if0 _ _).trans (feq (own_n0 hk113)).1) k) ?_
      show OGo p e below s _ _ _ (T113.setTop (mkF m 138 #[.val (.int va), .val (.int vb), .val (.int vs_), .val (.int vc), .val (.int vo), .val (.int vf), .val (.ref b53), .val (.int (((vo + (1 : Int32)) + (1 : Int32)) + (1 : Int32))), .val (.int (3 : Int32)), .unset, .unset, .unset, .unset] []))
      refine OGo.on (fun t k => XS.aload Xh114.here hx rfl (hb hby at_138) rfl rfl k) ?_
      show OGo p e below s _ _ _ (T113.setTop (mkF m 140 #[.val (.int va), .val (.int vb), .val (.int vs_), .val (.int vc), .val (.int vo), .val (.int vf), .val (.ref b53), .val (.int (((vo + (1 : Int32)) + (1 : Int32)) + (1 : Int32))), .val (.int (3 : Int32)), .unset, .unset, .unset, .unset] [(.ref b53)]))
      refine OGo.on (fun t k => XS.iconst Xh114.here hx rfl (hb hby at_140) k) ?_
      show OGo p e below s _ _ _ (T113.setTop (mkF m 141 #[.val (.int va), .val (.int vb), .val (.int vs_), .val (.int vc), .val (.int vo), .val (.int vf), .val (.ref b53), .val (.int (((vo + (1 : Int32)) + (1 : Int32)) + (1 : Int32))), .val (.int (3 : Int32)), .unset, .unset, .unset, .unset] [(.int (1 : Int32)), (.ref b53)]))
      refine OGo.on (fun t k => XS.iload Xh114.here hx rfl (hb hby at_141) rfl k) ?_
      show OGo p e below s _ _ _ (T113.setTop (mkF m 143 #[.val (.int va), .val (.int vb), .val (.int vs_), .val (.int vc), .val (.int vo), .val (.int vf), .val (.ref b53), .val (.int (((vo + (1 : Int32)) + (1 : Int32)) + (1 : Int32))), .val (.int (3 : Int32)), .unset, .unset, .unset, .unset] [(.int vo), (.int (1 : Int32)), (.ref b53)]))
      refine OGo.on (fun t k => XS.iload Xh114.here hx rfl (hb hby at_143) rfl k) ?_
      show OGo p e below s _ _ _ (T113.setTop (mkF m 145 #[.val (.int va), .val (.int vb), .val (.int vs_), .val (.int vc), .val (.int vo), .val (.int vf), .val (.ref b53), .val (.int (((vo + (1 : Int32)) + (1 : Int32)) + (1 : Int32))), .val (.int (3 : Int32)), .unset, .unset, .unset, .unset] [(.int (((vo + (1 : Int32)) + (1 : Int32)) + (1 : Int32))), (.int vo), (.int (1 : Int32)), (.ref b53)]))
      refine OGo.on (fun t k => XS.iload Xh114.here hx rfl (hb hby at_145) rfl k) ?_
      show OGo p e below s _ _ _ (T113.setTop (mkF m 147 #[.val (.int va), .val (.int vb), .val (.int vs_), .val (.int vc), .val (.int vo), .val (.int vf), .val (.ref b53), .val (.int (((vo + (1 : Int32)) + (1 : Int32)) + (1 : Int32))), .val (.int (3 : Int32)), .unset, .unset, .unset, .unset] [(.int vf), (.int (((vo + (1 : Int32)) + (1 : Int32)) + (1 : Int32))), (.int vo), (.int (1 : Int32)), (.ref b53)]))
      obtain ⟨w115, hq115, hk115⟩ := own_kp3 ho vf _ _ _ 1 (by decide)
      obtain ⟨_, _, ⟨T115, L115, k115, n115⟩, -, X115, ⟨Lc115, hQ115, l115, y115, z115⟩, st115⟩ := Jvm.LawKit.callS Xh114 hx (y := (⟨"com/example/libmsgframe/libmsgframe/Utf8PutBeyondAsciiPinLaw", "kept", "([BIIIB)Z"⟩ : MethodName)) hown (mvT hZ (hw _ (List.mem_of_getElem? (i := 7) rfl))) (mvT hZ (hw _ (List.mem_of_getElem? (i := 8) rfl))) (mvT hZ (hw _ (List.mem_of_getElem? (i := 9) rfl))) (mvT hZ (hw _ (List.mem_of_getElem? (i := 10) rfl))) (by decide) (backOf (W := 0) (own_mkept l Z a0 hw [] b53 (1 : Int32) vo (((vo + (1 : Int32)) + (1 : Int32)) + (1 : Int32)) vf w115 _ T88.heap n0 Z89 V112 hq115) hZ (hw _ (List.mem_of_getElem? (i := 10) rfl)) (hw _ (List.mem_of_getElem? (i := 9) rfl)) (by decide) (by decide)) (g := (mkF m 147 #[.val (.int va), .val (.int vb), .val (.int vs_), .val (.int vc), .val (.int vo), .val (.int vf), .val (.ref b53), .val (.int (((vo + (1 : Int32)) + (1 : Int32)) + (1 : Int32))), .val (.int (3 : Int32)), .unset, .unset, .unset, .unset] [(.int vf), (.int (((vo + (1 : Int32)) + (1 : Int32)) + (1 : Int32))), (.int vo), (.int (1 : Int32)), (.ref b53)])) rfl (by rw [hml]; rfl) (argsL := [(.ref b53), (.int (1 : Int32)), (.int vo), (.int (((vo + (1 : Int32)) + (1 : Int32)) + (1 : Int32))), (.int vf)]) (rest := []) (lenOf own_pd1 rfl) rfl (by show 2 * 0 + _ ≤ _; exact Nat.le_of_eq rfl) (hb hby at_147) (fun _ _ => ⟨rfl, e113, (by decide : 1 + 0 ≤ _), (by decide : 8 + 0 ≤ _)⟩)
      dsimp only [Pt.U, Pt.locs, Pt.cells, Pt.slots] at X115 l115 y115 z115 st115 hQ115
      subst l115 y115 z115
      obtain ⟨rfl, N115q, e115⟩ := hQ115
      have N115 := Fr.app Nh114 N115q
      obtain ⟨Lh116, Xh116, Nh116⟩ := own_hide X115 N115
      refine OGo.on st115 ?_
      show OGo p e below s _ _ _ (T115.setTop (mkF m 150 #[.val (.int va), .val (.int vb), .val (.int vs_), .val (.int vc), .val (.int vo), .val (.int vf), .val (.ref b53), .val (.int (((vo + (1 : Int32)) + (1 : Int32)) + (1 : Int32))), .val (.int (3 : Int32)), .unset, .unset, .unset, .unset] [(.int (own_kept w115 (1 : Int32) vo (((vo + (1 : Int32)) + (1 : Int32)) + (1 : Int32)) vf))]))
      refine OGo.on (fun t k => XS.ifNo Xh116.here hx rfl (hb hby at_150) rfl ((if0 _ _).trans (feq (own_n0 hk115)).1) k) ?_
      show OGo p e below s _ _ _ (T115.setTop (mkF m 153 #[.val (.int va), .val (.int vb), .val (.int vs_), .val (.int vc), .val (.int vo), .val (.int vf), .val (.ref b53), .val (.int (((vo + (1 : Int32)) + (1 : Int32)) + (1 : Int32))), .val (.int (3 : Int32)), .unset, .unset, .unset, .unset] []))
      refine OGo.on (fun t k => XS.aload Xh116.here hx rfl (hb hby at_153) rfl rfl k) ?_
      show OGo p e below s _ _ _ (T115.setTop (mkF m 155 #[.val (.int va), .val (.int vb), .val (.int vs_), .val (.int vc), .val (.int vo), .val (.int vf), .val (.ref b53), .val (.int (((vo + (1 : Int32)) + (1 : Int32)) + (1 : Int32))), .val (.int (3 : Int32)), .unset, .unset, .unset, .unset] [(.ref b53)]))
      refine OGo.on (fun t k => XS.iconst Xh116.here hx rfl (hb hby at_155) k) ?_
      show OGo p e below s _ _ _ (T115.setTop (mkF m 156 #[.val (.int va), .val (.int vb), .val (.int vs_), .val (.int vc), .val (.int vo), .val (.int vf), .val (.ref b53), .val (.int (((vo + (1 : Int32)) + (1 : Int32)) + (1 : Int32))), .val (.int (3 : Int32)), .unset, .unset, .unset, .unset] [(.int (2 : Int32)), (.ref b53)]))
      refine OGo.on (fun t k => XS.iload Xh116.here hx rfl (hb hby at_156) rfl k) ?_
      show OGo p e below s _ _ _ (T115.setTop (mkF m 158 #[.val (.int va), .val (.int vb), .val (.int vs_), .val (.int vc), .val (.int vo), .val (.int vf), .val (.ref b53), .val (.int (((vo + (1 : Int32)) + (1 : Int32)) + (1 : Int32))), .val (.int (3 : Int32)), .unset, .unset, .unset, .unset] [(.int vo), (.int (2 : Int32)), (.ref b53)]))
      refine OGo.on (fun t k => XS.iload Xh116.here hx rfl (hb hby at_158) rfl k) ?_
      show OGo p e below s _ _ _ (T115.setTop (mkF m 160 #[.val (.int va), .val (.int vb), .val (.int vs_), .val (.int vc), .val (.int vo), .val (.int vf), .val (.ref b53), .val (.int (((vo + (1 : Int32)) + (1 : Int32)) + (1 : Int32))), .val (.int (3 : Int32)), .unset, .unset, .unset, .unset] [(.int (((vo + (1 : Int32)) + (1 : Int32)) + (1 : Int32))), (.int vo), (.int (2 : Int32)), (.ref b53)]))
      refine OGo.on (fun t k => XS.iload Xh116.here hx rfl (hb hby at_160) rfl k) ?_
      show OGo p e below s _ _ _ (T115.setTop (mkF m 162 #[.val (.int va), .val (.int vb), .val (.int vs_), .val (.int vc), .val (.int vo), .val (.int vf), .val (.ref b53), .val (.int (((vo + (1 : Int32)) + (1 : Int32)) + (1 : Int32))), .val (.int (3 : Int32)), .unset, .unset, .unset, .unset] [(.int vf), (.int (((vo + (1 : Int32)) + (1 : Int32)) + (1 : Int32))), (.int vo), (.int (2 : Int32)), (.ref b53)]))
      obtain ⟨w117, hq117, hk117⟩ := own_kp3 ho vf _ _ _ 2 (by decide)
      obtain ⟨_, _, ⟨T117, L117, k117, n117⟩, -, X117, ⟨Lc117, hQ117, l117, y117, z117⟩, st117⟩ := Jvm.LawKit.callS Xh116 hx (y := (⟨"com/example/libmsgframe/libmsgframe/Utf8PutBeyondAsciiPinLaw", "kept", "([BIIIB)Z"⟩ : MethodName)) hown (mvT hZ (hw _ (List.mem_of_getElem? (i := 7) rfl))) (mvT hZ (hw _ (List.mem_of_getElem? (i := 8) rfl))) (mvT hZ (hw _ (List.mem_of_getElem? (i := 9) rfl))) (mvT hZ (hw _ (List.mem_of_getElem? (i := 10) rfl))) (by decide) (backOf (W := 0) (own_mkept l Z a0 hw [] b53 (2 : Int32) vo (((vo + (1 : Int32)) + (1 : Int32)) + (1 : Int32)) vf w117 _ T88.heap n0 Z89 V112 hq117) hZ (hw _ (List.mem_of_getElem? (i := 10) rfl)) (hw _ (List.mem_of_getElem? (i := 9) rfl)) (by decide) (by decide)) (g := (mkF m 162 #[.val (.int va), .val (.int vb), .val (.int vs_), .val (.int vc), .val (.int vo), .val (.int vf), .val (.ref b53), .val (.int (((vo + (1 : Int32)) + (1 : Int32)) + (1 : Int32))), .val (.int (3 : Int32)), .unset, .unset, .unset, .unset] [(.int vf), (.int (((vo + (1 : Int32)) + (1 : Int32)) + (1 : Int32))), (.int vo), (.int (2 : Int32)), (.ref b53)])) rfl (by rw [hml]; rfl) (argsL := [(.ref b53), (.int (2 : Int32)), (.int vo), (.int (((vo + (1 : Int32)) + (1 : Int32)) + (1 : Int32))), (.int vf)]) (rest := []) (lenOf own_pd1 rfl) rfl (by show 2 * 0 + _ ≤ _; exact Nat.le_of_eq rfl) (hb hby at_162) (fun _ _ => ⟨rfl, e115, (by decide : 1 + 0 ≤ _), (by decide : 8 + 0 ≤ _)⟩)
      dsimp only [Pt.U, Pt.locs, Pt.cells, Pt.slots] at X117 l117 y117 z117 st117 hQ117
      subst l117 y117 z117
      obtain ⟨rfl, N117q, e117⟩ := hQ117
      have N117 := Fr.app Nh116 N117q
      obtain ⟨Lh118, Xh118, Nh118⟩ := own_hide X117 N117
      refine OGo.on st117 ?_
      show OGo p e below s _ _ _ (T117.setTop (mkF m 165 #[.val (.int va), .val (.int vb), .val (.int vs_), .val (.int vc), .val (.int vo), .val (.int vf), .val (.ref b53), .val (.int (((vo + (1 : Int32)) + (1 : Int32)) + (1 : Int32))), .val (.int (3 : Int32)), .unset, .unset, .unset, .unset] [(.int (own_kept w117 (2 : Int32) vo (((vo + (1 : Int32)) + (1 : Int32)) + (1 : Int32)) vf))]))
      refine OGo.on (fun t k => XS.ifNo Xh118.here hx rfl (hb hby at_165) rfl ((if0 _ _).trans (feq (own_n0 hk117)).1) k) ?_
      show OGo p e below s _ _ _ (T117.setTop (mkF m 168 #[.val (.int va), .val (.int vb), .val (.int vs_), .val (.int vc), .val (.int vo), .val (.int vf), .val (.ref b53), .val (.int (((vo + (1 : Int32)) + (1 : Int32)) + (1 : Int32))), .val (.int (3 : Int32)), .unset, .unset, .unset, .unset] []))
      refine OGo.on (fun t k => XS.aload Xh118.here hx rfl (hb hby at_168) rfl rfl k) ?_
      show OGo p e below s _ _ _ (T117.setTop (mkF m 170 #[.val (.int va), .val (.int vb), .val (.int vs_), .val (.int vc), .val (.int vo), .val (.int vf), .val (.ref b53), .val (.int (((vo + (1 : Int32)) + (1 : Int32)) + (1 : Int32))), .val (.int (3 : Int32)), .unset, .unset, .unset, .unset] [(.ref b53)]))
      refine OGo.on (fun t k => XS.iconst Xh118.here hx rfl (hb hby at_170) k) ?_
      show OGo p e below s _ _ _ (T117.setTop (mkF m 171 #[.val (.int va), .val (.int vb), .val (.int vs_), .val (.int vc), .val (.int vo), .val (.int vf), .val (.ref b53), .val (.int (((vo + (1 : Int32)) + (1 : Int32)) + (1 : Int32))), .val (.int (3 : Int32)), .unset, .unset, .unset, .unset] [(.int (3 : Int32)), (.ref b53)]))
      refine OGo.on (fun t k => XS.iload Xh118.here hx rfl (hb hby at_171) rfl k) ?_
      show OGo p e below s _ _ _ (T117.setTop (mkF m 173 #[.val (.int va), .val (.int vb), .val (.int vs_), .val (.int vc), .val (.int vo), .val (.int vf), .val (.ref b53), .val (.int (((vo + (1 : Int32)) + (1 : Int32)) + (1 : Int32))), .val (.int (3 : Int32)), .unset, .unset, .unset, .unset] [(.int vo), (.int (3 : Int32)), (.ref b53)]))
      refine OGo.on (fun t k => XS.iload Xh118.here hx rfl (hb hby at_173) rfl k) ?_
      show OGo p e below s _ _ _ (T117.setTop (mkF m 175 #[.val (.int va), .val (.int vb), .val (.int vs_), .val (.int vc), .val (.int vo), .val (.int vf), .val (.ref b53), .val (.int (((vo + (1 : Int32)) + (1 : Int32)) + (1 : Int32))), .val (.int (3 : Int32)), .unset, .unset, .unset, .unset] [(.int (((vo + (1 : Int32)) + (1 : Int32)) + (1 : Int32))), (.int vo), (.int (3 : Int32)), (.ref b53)]))
      refine OGo.on (fun t k => XS.iload Xh118.here hx rfl (hb hby at_175) rfl k) ?_
      show OGo p e below s _ _ _ (T117.setTop (mkF m 177 #[.val (.int va), .val (.int vb), .val (.int vs_), .val (.int vc), .val (.int vo), .val (.int vf), .val (.ref b53), .val (.int (((vo + (1 : Int32)) + (1 : Int32)) + (1 : Int32))), .val (.int (3 : Int32)), .unset, .unset, .unset, .unset] [(.int vf), (.int (((vo + (1 : Int32)) + (1 : Int32)) + (1 : Int32))), (.int vo), (.int (3 : Int32)), (.ref b53)]))
      obtain ⟨w119, hq119, hk119⟩ := own_kp3 ho vf _ _ _ 3 (by decide)
      obtain ⟨_, _, ⟨T119, L119, k119, n119⟩, -, X119, ⟨Lc119, hQ119, l119, y119, z119⟩, st119⟩ := Jvm.LawKit.callS Xh118 hx (y := (⟨"com/example/libmsgframe/libmsgframe/Utf8PutBeyondAsciiPinLaw", "kept", "([BIIIB)Z"⟩ : MethodName)) hown (mvT hZ (hw _ (List.mem_of_getElem? (i := 7) rfl))) (mvT hZ (hw _ (List.mem_of_getElem? (i := 8) rfl))) (mvT hZ (hw _ (List.mem_of_getElem? (i := 9) rfl))) (mvT hZ (hw _ (List.mem_of_getElem? (i := 10) rfl))) (by decide) (backOf (W := 0) (own_mkept l Z a0 hw [] b53 (3 : Int32) vo (((vo + (1 : Int32)) + (1 : Int32)) + (1 : Int32)) vf w119 _ T88.heap n0 Z89 V112 hq119) hZ (hw _ (List.mem_of_getElem? (i := 10) rfl)) (hw _ (List.mem_of_getElem? (i := 9) rfl)) (by decide) (by decide)) (g := (mkF m 177 #[.val (.int va), .val (.int vb), .val (.int vs_), .val (.int vc), .val (.int vo), .val (.int vf), .val (.ref b53), .val (.int (((vo + (1 : Int32)) + (1 : Int32)) + (1 : Int32))), .val (.int (3 : Int32)), .unset, .unset, .unset, .unset] [(.int vf), (.int (((vo + (1 : Int32)) + (1 : Int32)) + (1 : Int32))), (.int vo), (.int (3 : Int32)), (.ref b53)])) rfl (by rw [hml]; rfl) (argsL := [(.ref b53), (.int (3 : Int32)), (.int vo), (.int (((vo + (1 : Int32)) + (1 : Int32)) + (1 : Int32))), (.int vf)]) (rest := []) (lenOf own_pd1 rfl) rfl (by show 2 * 0 + _ ≤ _; exact Nat.le_of_eq rfl) (hb hby at_177) (fun _ _ => ⟨rfl, e117, (by decide : 1 + 0 ≤ _), (by decide : 8 + 0 ≤ _)⟩)
      dsimp only [Pt.U, Pt.locs, Pt.cells, Pt.slots] at X119 l119 y119 z119 st119 hQ119
      subst l119 y119 z119
      obtain ⟨rfl, N119q, e119⟩ := hQ119
      have N119 := Fr.app Nh118 N119q
      obtain ⟨Lh120, Xh120, Nh120⟩ := own_hide X119 N119
      refine OGo.on st119 ?_
      show OGo p e below s _ _ _ (T119.setTop (mkF m 180 #[.val (.int va), .val (.int vb), .val (.int vs_), .val (.int vc), .val (.int vo), .val (.int vf), .val (.ref b53), .val (.int (((vo + (1 : Int32)) + (1 : Int32)) + (1 : Int32))), .val (.int (3 : Int32)), .unset, .unset, .unset, .unset] [(.int (own_kept w119 (3 : Int32) vo (((vo + (1 : Int32)) + (1 : Int32)) + (1 : Int32)) vf))]))
      refine OGo.on (fun t k => XS.ifNo Xh120.here hx rfl (hb hby at_180) rfl ((if0 _ _).trans (feq (own_n0 hk119)).1) k) ?_
      show OGo p e below s _ _ _ (T119.setTop (mkF m 183 #[.val (.int va), .val (.int vb), .val (.int vs_), .val (.int vc), .val (.int vo), .val (.int vf), .val (.ref b53), .val (.int (((vo + (1 : Int32)) + (1 : Int32)) + (1 : Int32))), .val (.int (3 : Int32)), .unset, .unset, .unset, .unset] []))
      refine OGo.on (fun t k => XS.aload Xh120.here hx rfl (hb hby at_183) rfl rfl k) ?_
      show OGo p e below s _ _ _ (T119.setTop (mkF m 185 #[.val (.int va), .val (.int vb), .val (.int vs_), .val (.int vc), .val (.int vo), .val (.int vf), .val (.ref b53), .val (.int (((vo + (1 : Int32)) + (1 : Int32)) + (1 : Int32))), .val (.int (3 : Int32)), .unset, .unset, .unset, .unset] [(.ref b53)]))
      refine OGo.on (fun t k => XS.iconst Xh120.here hx rfl (hb hby at_185) k) ?_
      show OGo p e below s _ _ _ (T119.setTop (mkF m 186 #[.val (.int va), .val (.int vb), .val (.int vs_), .val (.int vc), .val (.int vo), .val (.int vf), .val (.ref b53), .val (.int (((vo + (1 : Int32)) + (1 : Int32)) + (1 : Int32))), .val (.int (3 : Int32)), .unset, .unset, .unset, .unset] [(.int (4 : Int32)), (.ref b53)]))
      refine OGo.on (fun t k => XS.iload Xh120.here hx rfl (hb hby at_186) rfl k) ?_
      show OGo p e below s _ _ _ (T119.setTop (mkF m 188 #[.val (.int va), .val (.int vb), .val (.int vs_), .val (.int vc), .val (.int vo), .val (.int vf), .val (.ref b53), .val (.int (((vo + (1 : Int32)) + (1 : Int32)) + (1 : Int32))), .val (.int (3 : Int32)), .unset, .unset, .unset, .unset] [(.int vo), (.int (4 : Int32)), (.ref b53)]))
      refine OGo.on (fun t k => XS.iload Xh120.here hx rfl (hb hby at_188) rfl k) ?_
      show OGo p e below s _ _ _ (T119.setTop (mkF m 190 #[.val (.int va), .val (.int vb), .val (.int vs_), .val (.int vc), .val (.int vo), .val (.int vf), .val (.ref b53), .val (.int (((vo + (1 : Int32)) + (1 : Int32)) + (1 : Int32))), .val (.int (3 : Int32)), .unset, .unset, .unset, .unset] [(.int (((vo + (1 : Int32)) + (1 : Int32)) + (1 : Int32))), (.int vo), (.int (4 : Int32)), (.ref b53)]))
      refine OGo.on (fun t k => XS.iload Xh120.here hx rfl (hb hby at_190) rfl k) ?_
      show OGo p e below s _ _ _ (T119.setTop (mkF m 192 #[.val (.int va), .val (.int vb), .val (.int vs_), .val (.int vc), .val (.int vo), .val (.int vf), .val (.ref b53), .val (.int (((vo + (1 : Int32)) + (1 : Int32)) + (1 : Int32))), .val (.int (3 : Int32)), .unset, .unset, .unset, .unset] [(.int vf), (.int (((vo + (1 : Int32)) + (1 : Int32)) + (1 : Int32))), (.int vo), (.int (4 : Int32)), (.ref b53)]))
      obtain ⟨w121, hq121, hk121⟩ := own_kp3 ho vf _ _ _ 4 (by decide)
      obtain ⟨_, _, ⟨T121, L121, k121, n121⟩, -, X121, ⟨Lc121, hQ121, l121, y121, z121⟩, st121⟩ := Jvm.LawKit.callS Xh120 hx (y := (⟨"com/example/libmsgframe/libmsgframe/Utf8PutBeyondAsciiPinLaw", "kept", "([BIIIB)Z"⟩ : MethodName)) hown (mvT hZ (hw _ (List.mem_of_getElem? (i := 7) rfl))) (mvT hZ (hw _ (List.mem_of_getElem? (i := 8) rfl))) (mvT hZ (hw _ (List.mem_of_getElem? (i := 9) rfl))) (mvT hZ (hw _ (List.mem_of_getElem? (i := 10) rfl))) (by decide) (backOf (W := 0) (own_mkept l Z a0 hw [] b53 (4 : Int32) vo (((vo + (1 : Int32)) + (1 : Int32)) + (1 : Int32)) vf w121 _ T88.heap n0 Z89 V112 hq121) hZ (hw _ (List.mem_of_getElem? (i := 10) rfl)) (hw _ (List.mem_of_getElem? (i := 9) rfl)) (by decide) (by decide)) (g := (mkF m 192 #[.val (.int va), .val (.int vb), .val (.int vs_), .val (.int vc), .val (.int vo), .val (.int vf), .val (.ref b53), .val (.int (((vo + (1 : Int32)) + (1 : Int32)) + (1 : Int32))), .val (.int (3 : Int32)), .unset, .unset, .unset, .unset] [(.int vf), (.int (((vo + (1 : Int32)) + (1 : Int32)) + (1 : Int32))), (.int vo), (.int (4 : Int32)), (.ref b53)])) rfl (by rw [hml]; rfl) (argsL := [(.ref b53), (.int (4 : Int32)), (.int vo), (.int (((vo + (1 : Int32)) + (1 : Int32)) + (1 : Int32))), (.int vf)]) (rest := []) (lenOf own_pd1 rfl) rfl (by show 2 * 0 + _ ≤ _; exact Nat.le_of_eq rfl) (hb hby at_192) (fun _ _ => ⟨rfl, e119, (by decide : 1 + 0 ≤ _), (by decide : 8 + 0 ≤ _)⟩)
      dsimp only [Pt.U, Pt.locs, Pt.cells, Pt.slots] at X121 l121 y121 z121 st121 hQ121
      subst l121 y121 z121
      obtain ⟨rfl, N121q, e121⟩ := hQ121
      have N121 := Fr.app Nh120 N121q
      obtain ⟨Lh122, Xh122, Nh122⟩ := own_hide X121 N121
      refine OGo.on st121 ?_
      show OGo p e below s _ _ _ (T121.setTop (mkF m 195 #[.val (.int va), .val (.int vb), .val (.int vs_), .val (.int vc), .val (.int vo), .val (.int vf), .val (.ref b53), .val (.int (((vo + (1 : Int32)) + (1 : Int32)) + (1 : Int32))), .val (.int (3 : Int32)), .unset, .unset, .unset, .unset] [(.int (own_kept w121 (4 : Int32) vo (((vo + (1 : Int32)) + (1 : Int32)) + (1 : Int32)) vf))]))
      refine OGo.on (fun t k => XS.ifNo Xh122.here hx rfl (hb hby at_195) rfl ((if0 _ _).trans (feq (own_n0 hk121)).1) k) ?_
      show OGo p e below s _ _ _ (T121.setTop (mkF m 198 #[.val (.int va), .val (.int vb), .val (.int vs_), .val (.int vc), .val (.int vo), .val (.int vf), .val (.ref b53), .val (.int (((vo + (1 : Int32)) + (1 : Int32)) + (1 : Int32))), .val (.int (3 : Int32)), .unset, .unset, .unset, .unset] []))
      refine OGo.on (fun t k => XS.aload Xh122.here hx rfl (hb hby at_198) rfl rfl k) ?_
      show OGo p e below s _ _ _ (T121.setTop (mkF m 200 #[.val (.int va), .val (.int vb), .val (.int vs_), .val (.int vc), .val (.int vo), .val (.int vf), .val (.ref b53), .val (.int (((vo + (1 : Int32)) + (1 : Int32)) + (1 : Int32))), .val (.int (3 : Int32)), .unset, .unset, .unset, .unset] [(.ref b53)]))
      refine OGo.on (fun t k => XS.iconst Xh122.here hx rfl (hb hby at_200) k) ?_
      show OGo p e below s _ _ _ (T121.setTop (mkF m 201 #[.val (.int va), .val (.int vb), .val (.int vs_), .val (.int vc), .val (.int vo), .val (.int vf), .val (.ref b53), .val (.int (((vo + (1 : Int32)) + (1 : Int32)) + (1 : Int32))), .val (.int (3 : Int32)), .unset, .unset, .unset, .unset] [(.int (5 : Int32)), (.ref b53)]))
      refine OGo.on (fun t k => XS.iload Xh122.here hx rfl (hb hby at_201) rfl k) ?_
      show OGo p e below s _ _ _ (T121.setTop (mkF m 203 #[.val (.int va), .val (.int vb), .val (.int vs_), .val (.int vc), .val (.int vo), .val (.int vf), .val (.ref b53), .val (.int (((vo + (1 : Int32)) + (1 : Int32)) + (1 : Int32))), .val (.int (3 : Int32)), .unset, .unset, .unset, .unset] [(.int vo), (.int (5 : Int32)), (.ref b53)]))
      refine OGo.on (fun t k => XS.iload Xh122.here hx rfl (hb hby at_203) rfl k) ?_
      show OGo p e below s _ _ _ (T121.setTop (mkF m 205 #[.val (.int va), .val (.int vb), .val (.int vs_), .val (.int vc), .val (.int vo), .val (.int vf), .val (.ref b53), .val (.int (((vo + (1 : Int32)) + (1 : Int32)) + (1 : Int32))), .val (.int (3 : Int32)), .unset, .unset, .unset, .unset] [(.int (((vo + (1 : Int32)) + (1 : Int32)) + (1 : Int32))), (.int vo), (.int (5 : Int32)), (.ref b53)]))
      refine OGo.on (fun t k => XS.iload Xh122.here hx rfl (hb hby at_205) rfl k) ?_
      show OGo p e below s _ _ _ (T121.setTop (mkF m 207 #[.val (.int va), .val (.int vb), .val (.int vs_), .val (.int vc), .val (.int vo), .val (.int vf), .val (.ref b53), .val (.int (((vo + (1 : Int32)) + (1 : Int32)) + (1 : Int32))), .val (.int (3 : Int32)), .unset, .unset, .unset, .unset] [(.int vf), (.int (((vo + (1 : Int32)) + (1 : Int32)) + (1 : Int32))), (.int vo), (.int (5 : Int32)), (.ref b53)]))
      obtain ⟨w123, hq123, hk123⟩ := own_kp3 ho vf _ _ _ 5 (by decide)
      obtain ⟨_, _, ⟨T123, L123, k123, n123⟩, -, X123, ⟨Lc123, hQ123, l123, y123, z123⟩, st123⟩ := Jvm.LawKit.callS Xh122 hx (y := (⟨"com/example/libmsgframe/libmsgframe/Utf8PutBeyondAsciiPinLaw", "kept", "([BIIIB)Z"⟩ : MethodName)) hown (mvT hZ (hw _ (List.mem_of_getElem? (i := 7) rfl))) (mvT hZ (hw _ (List.mem_of_getElem? (i := 8) rfl))) (mvT hZ (hw _ (List.mem_of_getElem? (i := 9) rfl))) (mvT hZ (hw _ (List.mem_of_getElem? (i := 10) rfl))) (by decide) (backOf (W := 0) (own_mkept l Z a0 hw [] b53 (5 : Int32) vo (((vo + (1 : Int32)) + (1 : Int32)) + (1 : Int32)) vf w123 _ T88.heap n0 Z89 V112 hq123) hZ (hw _ (List.mem_of_getElem? (i := 10) rfl)) (hw _ (List.mem_of_getElem? (i := 9) rfl)) (by decide) (by decide)) (g := (mkF m 207 #[.val (.int va), .val (.int vb), .val (.int vs_), .val (.int vc), .val (.int vo), .val (.int vf), .val (.ref b53), .val (.int (((vo + (1 : Int32)) + (1 : Int32)) + (1 : Int32))), .val (.int (3 : Int32)), .unset, .unset, .unset, .unset] [(.int vf), (.int (((vo + (1 : Int32)) + (1 : Int32)) + (1 : Int32))), (.int vo), (.int (5 : Int32)), (.ref b53)])) rfl (by rw [hml]; rfl) (argsL := [(.ref b53), (.int (5 : Int32)), (.int vo), (.int (((vo + (1 : Int32)) + (1 : Int32)) + (1 : Int32))), (.int vf)]) (rest := []) (lenOf own_pd1 rfl) rfl (by show 2 * 0 + _ ≤ _; exact Nat.le_of_eq rfl) (hb hby at_207) (fun _ _ => ⟨rfl, e121, (by decide : 1 + 0 ≤ _), (by decide : 8 + 0 ≤ _)⟩)
      dsimp only [Pt.U, Pt.locs, Pt.cells, Pt.slots] at X123 l123 y123 z123 st123 hQ123
      subst l123 y123 z123
      obtain ⟨rfl, N123q, e123⟩ := hQ123
      have N123 := Fr.app Nh122 N123q
      obtain ⟨Lh124, Xh124, Nh124⟩ := own_hide X123 N123
      refine OGo.on st123 ?_
      show OGo p e below s _ _ _ (T123.setTop (mkF m 210 #[.val (.int va), .val (.int vb), .val (.int vs_), .val (.int vc), .val (.int vo), .val (.int vf), .val (.ref b53), .val (.int (((vo + (1 : Int32)) + (1 : Int32)) + (1 : Int32))), .val (.int (3 : Int32)), .unset, .unset, .unset, .unset] [(.int (own_kept w123 (5 : Int32) vo (((vo + (1 : Int32)) + (1 : Int32)) + (1 : Int32)) vf))]))
      refine OGo.on (fun t k => XS.ifNo Xh124.here hx rfl (hb hby at_210) rfl ((if0 _ _).trans (feq (own_n0 hk123)).1) k) ?_
      show OGo p e below s _ _ _ (T123.setTop (mkF m 213 #[.val (.int va), .val (.int vb), .val (.int vs_), .val (.int vc), .val (.int vo), .val (.int vf), .val (.ref b53), .val (.int (((vo + (1 : Int32)) + (1 : Int32)) + (1 : Int32))), .val (.int (3 : Int32)), .unset, .unset, .unset, .unset] []))
      refine OGo.on (fun t k => XS.aload Xh124.here hx rfl (hb hby at_213) rfl rfl k) ?_
      show OGo p e below s _ _ _ (T123.setTop (mkF m 215 #[.val (.int va), .val (.int vb), .val (.int vs_), .val (.int vc), .val (.int vo), .val (.int vf), .val (.ref b53), .val (.int (((vo + (1 : Int32)) + (1 : Int32)) + (1 : Int32))), .val (.int (3 : Int32)), .unset, .unset, .unset, .unset] [(.ref b53)]))
      refine OGo.on (fun t k => XS.bipush Xh124.here hx rfl (hb hby at_215) k) ?_
      show OGo p e below s _ _ _ (T123.setTop (mkF m 217 #[.val (.int va), .val (.int vb), .val (.int vs_), .val (.int vc), .val (.int vo), .val (.int vf), .val (.ref b53), .val (.int (((vo + (1 : Int32)) + (1 : Int32)) + (1 : Int32))), .val (.int (3 : Int32)), .unset, .unset, .unset, .unset] [(.int (6 : Int32)), (.ref b53)]))
      refine OGo.on (fun t k => XS.iload Xh124.here hx rfl (hb hby at_217) rfl k) ?_
      show OGo p e below s _ _ _ (T123.setTop (mkF m 219 #[.val (.int va), .val (.int vb), .val (.int vs_), .val (.int vc), .val (.int vo), .val (.int vf), .val (.ref b53), .val (.int (((vo + (1 : Int32)) + (1 : Int32)) + (1 : Int32))), .val (.int (3 : Int32)), .unset, .unset, .unset, .unset] [(.int vo), (.int (6 : Int32)), (.ref b53)]))
      refine OGo.on (fun t k => XS.iload Xh124.here hx rfl (hb hby at_219) rfl k) ?_
      show OGo p e below s _ _ _ (T123.setTop (mkF m 221 #[.val (.int va), .val (.int vb), .val (.int vs_), .val (.int vc), .val (.int vo), .val (.int vf), .val (.ref b53), .val (.int (((vo + (1 : Int32)) + (1 : Int32)) + (1 : Int32))), .val (.int (3 : Int32)), .unset, .unset, .unset, .unset] [(.int (((vo + (1 : Int32)) + (1 : Int32)) + (1 : Int32))), (.int vo), (.int (6 : Int32)), (.ref b53)]))
      refine OGo.on (fun t k => XS.iload Xh124.here hx rfl (hb hby at_221) rfl k) ?_
      show OGo p e below s _ _ _ (T123.setTop (mkF m 223 #[.val (.int va), .val (.int vb), .val (.int vs_), .val (.int vc), .val (.int vo), .val (.int vf), .val (.ref b53), .val (.int (((vo + (1 : Int32)) + (1 : Int32)) + (1 : Int32))), .val (.int (3 : Int32)), .unset, .unset, .unset, .unset] [(.int vf), (.int (((vo + (1 : Int32)) + (1 : Int32)) + (1 : Int32))), (.int vo), (.int (6 : Int32)), (.ref b53)]))
      obtain ⟨w125, hq125, hk125⟩ := own_kp3 ho vf _ _ _ 6 (by decide)
      obtain ⟨_, _, ⟨T125, L125, k125, n125⟩, -, X125, ⟨Lc125, hQ125, l125, y125, z125⟩, st125⟩ := Jvm.LawKit.callS Xh124 hx (y := (⟨"com/example/libmsgframe/libmsgframe/Utf8PutBeyondAsciiPinLaw", "kept", "([BIIIB)Z"⟩ : MethodName)) hown (mvT hZ (hw _ (List.mem_of_getElem? (i := 7) rfl))) (mvT hZ (hw _ (List.mem_of_getElem? (i := 8) rfl))) (mvT hZ (hw _ (List.mem_of_getElem? (i := 9) rfl))) (mvT hZ (hw _ (List.mem_of_getElem? (i := 10) rfl))) (by decide) (backOf (W := 0) (own_mkept l Z a0 hw [] b53 (6 : Int32) vo (((vo + (1 : Int32)) + (1 : Int32)) + (1 : Int32)) vf w125 _ T88.heap n0 Z89 V112 hq125) hZ (hw _ (List.mem_of_getElem? (i := 10) rfl)) (hw _ (List.mem_of_getElem? (i := 9) rfl)) (by decide) (by decide)) (g := (mkF m 223 #[.val (.int va), .val (.int vb), .val (.int vs_), .val (.int vc), .val (.int vo), .val (.int vf), .val (.ref b53), .val (.int (((vo + (1 : Int32)) + (1 : Int32)) + (1 : Int32))), .val (.int (3 : Int32)), .unset, .unset, .unset, .unset] [(.int vf), (.int (((vo + (1 : Int32)) + (1 : Int32)) + (1 : Int32))), (.int vo), (.int (6 : Int32)), (.ref b53)])) rfl (by rw [hml]; rfl) (argsL := [(.ref b53), (.int (6 : Int32)), (.int vo), (.int (((vo + (1 : Int32)) + (1 : Int32)) + (1 : Int32))), (.int vf)]) (rest := []) (lenOf own_pd1 rfl) rfl (by show 2 * 0 + _ ≤ _; exact Nat.le_of_eq rfl) (hb hby at_223) (fun _ _ => ⟨rfl, e123, (by decide : 1 + 0 ≤ _), (by decide : 8 + 0 ≤ _)⟩)
      dsimp only [Pt.U, Pt.locs, Pt.cells, Pt.slots] at X125 l125 y125 z125 st125 hQ125
      subst l125 y125 z125
      obtain ⟨rfl, N125q, e125⟩ := hQ125
      have N125 := Fr.app Nh124 N125q
      obtain ⟨Lh126, Xh126, Nh126⟩ := own_hide X125 N125
      refine OGo.on st125 ?_
      show OGo p e below s _ _ _ (T125.setTop (mkF m 226 #[.val (.int va), .val (.int vb), .val (.int vs_), .val (.int vc), .val (.int vo), .val (.int vf), .val (.ref b53), .val (.int (((vo + (1 : Int32)) + (1 : Int32)) + (1 : Int32))), .val (.int (3 : Int32)), .unset, .unset, .unset, .unset] [(.int (own_kept w125 (6 : Int32) vo (((vo + (1 : Int32)) + (1 : Int32)) + (1 : Int32)) vf))]))
      refine OGo.on (fun t k => XS.ifNo Xh126.here hx rfl (hb hby at_226) rfl ((if0 _ _).trans (feq (own_n0 hk125)).1) k) ?_
      show OGo p e below s _ _ _ (T125.setTop (mkF m 229 #[.val (.int va), .val (.int vb), .val (.int vs_), .val (.int vc), .val (.int vo), .val (.int vf), .val (.ref b53), .val (.int (((vo + (1 : Int32)) + (1 : Int32)) + (1 : Int32))), .val (.int (3 : Int32)), .unset, .unset, .unset, .unset] []))
      refine OGo.on (fun t k => XS.aload Xh126.here hx rfl (hb hby at_229) rfl rfl k) ?_
      show OGo p e below s _ _ _ (T125.setTop (mkF m 231 #[.val (.int va), .val (.int vb), .val (.int vs_), .val (.int vc), .val (.int vo), .val (.int vf), .val (.ref b53), .val (.int (((vo + (1 : Int32)) + (1 : Int32)) + (1 : Int32))), .val (.int (3 : Int32)), .unset, .unset, .unset, .unset] [(.ref b53)]))
      refine OGo.on (fun t k => XS.bipush Xh126.here hx rfl (hb hby at_231) k) ?_
      show OGo p e below s _ _ _ (T125.setTop (mkF m 233 #[.val (.int va), .val (.int vb), .val (.int vs_), .val (.int vc), .val (.int vo), .val (.int vf), .val (.ref b53), .val (.int (((vo + (1 : Int32)) + (1 : Int32)) + (1 : Int32))), .val (.int (3 : Int32)), .unset, .unset, .unset, .unset] [(.int (7 : Int32)), (.ref b53)]))
      refine OGo.on (fun t k => XS.iload Xh126.here hx rfl (hb hby at_233) rfl k) ?_
      show OGo p e below s _ _ _ (T125.setTop (mkF m 235 #[.val (.int va), .val (.int vb), .val (.int vs_), .val (.int vc), .val (.int vo), .val (.int vf), .val (.ref b53), .val (.int (((vo + (1 : Int32)) + (1 : Int32)) + (1 : Int32))), .val (.int (3 : Int32)), .unset, .unset, .unset, .unset] [(.int vo), (.int (7 : Int32)), (.ref b53)]))
      refine OGo.on (fun t k => XS.iload Xh126.here hx rfl (hb hby at_235) rfl k) ?_
      show OGo p e below s _ _ _ (T125.setTop (mkF m 237 #[.val (.int va), .val (.int vb), .val (.int vs_), .val (.int vc), .val (.int vo), .val (.int vf), .val (.ref b53), .val (.int (((vo + (1 : Int32)) + (1 : Int32)) + (1 : Int32))), .val (.int (3 : Int32)), .unset, .unset, .unset, .unset] [(.int (((vo + (1 : Int32)) + (1 : Int32)) + (1 : Int32))), (.int vo), (.int (7 : Int32)), (.ref b53)]))
      refine OGo.on (fun t k => XS.iload Xh126.here hx rfl (hb hby at_237) rfl k) ?_
      show OGo p e below s _ _ _ (T125.setTop (mkF m 239 #[.val (.int va), .val (.int vb), .val (.int vs_), .val (.int vc), .val (.int vo), .val (.int vf), .val (.ref b53), .val (.int (((vo + (1 : Int32)) + (1 : Int32)) + (1 : Int32))), .val (.int (3 : Int32)), .unset, .unset, .unset, .unset] [(.int vf), (.int (((vo + (1 : Int32)) + (1 : Int32)) + (1 : Int32))), (.int vo), (.int (7 : Int32)), (.ref b53)]))
      obtain ⟨w127, hq127, hk127⟩ := own_kp3 ho vf _ _ _ 7 (by decide)
      obtain ⟨_, _, ⟨T127, L127, k127, n127⟩, -, X127, ⟨Lc127, hQ127, l127, y127, z127⟩, st127⟩ := Jvm.LawKit.callS Xh126 hx (y := (⟨"com/example/libmsgframe/libmsgframe/Utf8PutBeyondAsciiPinLaw", "kept", "([BIIIB)Z"⟩ : MethodName)) hown (mvT hZ (hw _ (List.mem_of_getElem? (i := 7) rfl))) (mvT hZ (hw _ (List.mem_of_getElem? (i := 8) rfl))) (mvT hZ (hw _ (List.mem_of_getElem? (i := 9) rfl))) (mvT hZ (hw _ (List.mem_of_getElem? (i := 10) rfl))) (by decide) (backOf (W := 0) (own_mkept l Z a0 hw [] b53 (7 : Int32) vo (((vo + (1 : Int32)) + (1 : Int32)) + (1 : Int32)) vf w127 _ T88.heap n0 Z89 V112 hq127) hZ (hw _ (List.mem_of_getElem? (i := 10) rfl)) (hw _ (List.mem_of_getElem? (i := 9) rfl)) (by decide) (by decide)) (g := (mkF m 239 #[.val (.int va), .val (.int vb), .val (.int vs_), .val (.int vc), .val (.int vo), .val (.int vf), .val (.ref b53), .val (.int (((vo + (1 : Int32)) + (1 : Int32)) + (1 : Int32))), .val (.int (3 : Int32)), .unset, .unset, .unset, .unset] [(.int vf), (.int (((vo + (1 : Int32)) + (1 : Int32)) + (1 : Int32))), (.int vo), (.int (7 : Int32)), (.ref b53)])) rfl (by rw [hml]; rfl) (argsL := [(.ref b53), (.int (7 : Int32)), (.int vo), (.int (((vo + (1 : Int32)) + (1 : Int32)) + (1 : Int32))), (.int vf)]) (rest := []) (lenOf own_pd1 rfl) rfl (by show 2 * 0 + _ ≤ _; exact Nat.le_of_eq rfl) (hb hby at_239) (fun _ _ => ⟨rfl, e125, (by decide : 1 + 0 ≤ _), (by decide : 8 + 0 ≤ _)⟩)
      dsimp only [Pt.U, Pt.locs, Pt.cells, Pt.slots] at X127 l127 y127 z127 st127 hQ127
      subst l127 y127 z127
      obtain ⟨rfl, N127q, e127⟩ := hQ127
      have N127 := Fr.app Nh126 N127q
      obtain ⟨Lh128, Xh128, Nh128⟩ := own_hide X127 N127
      refine OGo.on st127 ?_
      show OGo p e below s _ _ _ (T127.setTop (mkF m 242 #[.val (.int va), .val (.int vb), .val (.int vs_), .val (.int vc), .val (.int vo), .val (.int vf), .val (.ref b53), .val (.int (((vo + (1 : Int32)) + (1 : Int32)) + (1 : Int32))), .val (.int (3 : Int32)), .unset, .unset, .unset, .unset] [(.int (own_kept w127 (7 : Int32) vo (((vo + (1 : Int32)) + (1 : Int32)) + (1 : Int32)) vf))]))
      refine OGo.on (fun t k => XS.ifYes Xh128.here hx rfl (pc0 := 242) (pc' := 247) rfl (hb hby at_242) rfl ((if0 _ _).trans (feq (own_n0 hk127)).2) (by decide) (by decide) k) ?_
      show OGo p e below s _ _ _ (T127.setTop (mkF m 247 #[.val (.int va), .val (.int vb), .val (.int vs_), .val (.int vc), .val (.int vo), .val (.int vf), .val (.ref b53), .val (.int (((vo + (1 : Int32)) + (1 : Int32)) + (1 : Int32))), .val (.int (3 : Int32)), .unset, .unset, .unset, .unset] []))
      refine OGo.on (fun t k => XS.aload Xh128.here hx rfl (hb hby at_247) rfl rfl k) ?_
      show OGo p e below s _ _ _ (T127.setTop (mkF m 249 #[.val (.int va), .val (.int vb), .val (.int vs_), .val (.int vc), .val (.int vo), .val (.int vf), .val (.ref b53), .val (.int (((vo + (1 : Int32)) + (1 : Int32)) + (1 : Int32))), .val (.int (3 : Int32)), .unset, .unset, .unset, .unset] [(.ref b53)]))
      refine OGo.on (fun t k => XS.iload Xh128.here hx rfl (hb hby at_249) rfl k) ?_
      show OGo p e below s _ _ _ (T127.setTop (mkF m 251 #[.val (.int va), .val (.int vb), .val (.int vs_), .val (.int vc), .val (.int vo), .val (.int vf), .val (.ref b53), .val (.int (((vo + (1 : Int32)) + (1 : Int32)) + (1 : Int32))), .val (.int (3 : Int32)), .unset, .unset, .unset, .unset] [(.int vo), (.ref b53)]))
      refine OGo.on (fun t k => OAL.baB Xh128 hx hZ e127 V112 (own_rd3 ho vf _ _ _).1 (hb hby at_251) k) ?_
      show OGo p e below s _ _ _ (T127.setTop (mkF m 252 #[.val (.int va), .val (.int vb), .val (.int vs_), .val (.int vc), .val (.int vo), .val (.int vf), .val (.ref b53), .val (.int (((vo + (1 : Int32)) + (1 : Int32)) + (1 : Int32))), .val (.int (3 : Int32)), .unset, .unset, .unset, .unset] [(.int (nar .byte (((224 : Int32) ||| (vc >>> ((12 : Int32) &&& 31))).toInt8.toInt32)))]))
      refine OGo.on (fun t k => XS.sipush Xh128.here hx rfl (hb hby at_252) k) ?_
      show OGo p e below s _ _ _ (T127.setTop (mkF m 255 #[.val (.int va), .val (.int vb), .val (.int vs_), .val (.int vc), .val (.int vo), .val (.int vf), .val (.ref b53), .val (.int (((vo + (1 : Int32)) + (1 : Int32)) + (1 : Int32))), .val (.int (3 : Int32)), .unset, .unset, .unset, .unset] [(.int (255 : Int32)), (.int (nar .byte (((224 : Int32) ||| (vc >>> ((12 : Int32) &&& 31))).toInt8.toInt32)))]))
      refine OGo.on (fun t k => XS.iand Xh128.here hx rfl (hb hby at_255) rfl k) ?_
      show OGo p e below s _ _ _ (T127.setTop (mkF m 256 #[.val (.int va), .val (.int vb), .val (.int vs_), .val (.int vc), .val (.int vo), .val (.int vf), .val (.ref b53), .val (.int (((vo + (1 : Int32)) + (1 : Int32)) + (1 : Int32))), .val (.int (3 : Int32)), .unset, .unset, .unset, .unset] [(.int ((nar .byte (((224 : Int32) ||| (vc >>> ((12 : Int32) &&& 31))).toInt8.toInt32)) &&& (255 : Int32)))]))
      refine OGo.on (fun t k => XS.istore Xh128.here hx rfl (hb hby at_256) rfl (l' := #[.val (.int va), .val (.int vb), .val (.int vs_), .val (.int vc), .val (.int vo), .val (.int vf), .val (.ref b53), .val (.int (((vo + (1 : Int32)) + (1 : Int32)) + (1 : Int32))), .val (.int (3 : Int32)), .val (.int ((nar .byte (((224 : Int32) ||| (vc >>> ((12 : Int32) &&& 31))).toInt8.toInt32)) &&& (255 : Int32))), .unset, .unset, .unset]) rfl k) ?_
      show OGo p e below s _ _ _ (T127.setTop (mkF m 258 #[.val (.int va), .val (.int vb), .val (.int vs_), .val (.int vc), .val (.int vo), .val (.int vf), .val (.ref b53), .val (.int (((vo + (1 : Int32)) + (1 : Int32)) + (1 : Int32))), .val (.int (3 : Int32)), .val (.int ((nar .byte (((224 : Int32) ||| (vc >>> ((12 : Int32) &&& 31))).toInt8.toInt32)) &&& (255 : Int32))), .unset, .unset, .unset] []))
      generalize hv_r0 : ((nar .byte (((224 : Int32) ||| (vc >>> ((12 : Int32) &&& 31))).toInt8.toInt32)) &&& (255 : Int32)) = r0
      show OGo p e below s _ _ _ (T127.setTop (mkF m 258 #[.val (.int va), .val (.int vb), .val (.int vs_), .val (.int vc), .val (.int vo), .val (.int vf), .val (.ref b53), .val (.int (((vo + (1 : Int32)) + (1 : Int32)) + (1 : Int32))), .val (.int (3 : Int32)), .val (.int r0), .unset, .unset, .unset] []))
      refine OGo.on (fun t k => XS.aload Xh128.here hx rfl (hb hby at_258) rfl rfl k) ?_
      show OGo p e below s _ _ _ (T127.setTop (mkF m 260 #[.val (.int va), .val (.int vb), .val (.int vs_), .val (.int vc), .val (.int vo), .val (.int vf), .val (.ref b53), .val (.int (((vo + (1 : Int32)) + (1 : Int32)) + (1 : Int32))), .val (.int (3 : Int32)), .val (.int r0), .unset, .unset, .unset] [(.ref b53)]))
      refine OGo.on (fun t k => XS.iload Xh128.here hx rfl (hb hby at_260) rfl k) ?_
      show OGo p e below s _ _ _ (T127.setTop (mkF m 262 #[.val (.int va), .val (.int vb), .val (.int vs_), .val (.int vc), .val (.int vo), .val (.int vf), .val (.ref b53), .val (.int (((vo + (1 : Int32)) + (1 : Int32)) + (1 : Int32))), .val (.int (3 : Int32)), .val (.int r0), .unset, .unset, .unset] [(.int vo), (.ref b53)]))
      refine OGo.on (fun t k => XS.iconst Xh128.here hx rfl (hb hby at_262) k) ?_
      show OGo p e below s _ _ _ (T127.setTop (mkF m 263 #[.val (.int va), .val (.int vb), .val (.int vs_), .val (.int vc), .val (.int vo), .val (.int vf), .val (.ref b53), .val (.int (((vo + (1 : Int32)) + (1 : Int32)) + (1 : Int32))), .val (.int (3 : Int32)), .val (.int r0), .unset, .unset, .unset] [(.int (1 : Int32)), (.int vo), (.ref b53)]))
      refine OGo.on (fun t k => XS.iadd Xh128.here hx rfl (hb hby at_263) rfl k) ?_
      show OGo p e below s _ _ _ (T127.setTop (mkF m 264 #[.val (.int va), .val (.int vb), .val (.int vs_), .val (.int vc), .val (.int vo), .val (.int vf), .val (.ref b53), .val (.int (((vo + (1 : Int32)) + (1 : Int32)) + (1 : Int32))), .val (.int (3 : Int32)), .val (.int r0), .unset, .unset, .unset] [(.int (vo + (1 : Int32))), (.ref b53)]))
      refine OGo.on (fun t k => OAL.baB Xh128 hx hZ e127 V112 (own_rd3 ho vf _ _ _).2.1 (hb hby at_264) k) ?_
      show OGo p e below s _ _ _ (T127.setTop (mkF m 265 #[.val (.int va), .val (.int vb), .val (.int vs_), .val (.int vc), .val (.int vo), .val (.int vf), .val (.ref b53), .val (.int (((vo + (1 : Int32)) + (1 : Int32)) + (1 : Int32))), .val (.int (3 : Int32)), .val (.int r0), .unset, .unset, .unset] [(.int (nar .byte (((128 : Int32) ||| ((vc >>> ((6 : Int32) &&& 31)) &&& (63 : Int32))).toInt8.toInt32)))]))
      refine OGo.on (fun t k => XS.sipush Xh128.here hx rfl (hb hby at_265) k) ?_
      show OGo p e below s _ _ _ (T127.setTop (mkF m 268 #[.val (.int va), .val (.int vb), .val (.int vs_), .val (.int vc), .val (.int vo), .val (.int vf), .val (.ref b53), .val (.int (((vo + (1 : Int32)) + (1 : Int32)) + (1 : Int32))), .val (.int (3 : Int32)), .val (.int r0), .unset, .unset, .unset] [(.int (255 : Int32)), (.int (nar .byte (((128 : Int32) ||| ((vc >>> ((6 : Int32) &&& 31)) &&& (63 : Int32))).toInt8.toInt32)))]))
      refine OGo.on (fun t k => XS.iand Xh128.here hx rfl (hb hby at_268) rfl k) ?_
      show OGo p e below s _ _ _ (T127.setTop (mkF m 269 #[.val (.int va), .val (.int vb), .val (.int vs_), .val (.int vc), .val (.int vo), .val (.int vf), .val (.ref b53), .val (.int (((vo + (1 : Int32)) + (1 : Int32)) + (1 : Int32))), .val (.int (3 : Int32)), .val (.int r0), .unset, .unset, .unset] [(.int ((nar .byte (((128 : Int32) ||| ((vc >>> ((6 : Int32) &&& 31)) &&& (63 : Int32))).toInt8.toInt32)) &&& (255 : Int32)))]))
      refine OGo.on (fun t k => XS.istore Xh128.here hx rfl (hb hby at_269) rfl (l' := #[.val (.int va), .val (.int vb), .val (.int vs_), .val (.int vc), .val (.int vo), .val (.int vf), .val (.ref b53), .val (.int (((vo + (1 : Int32)) + (1 : Int32)) + (1 : Int32))), .val (.int (3 : Int32)), .val (.int r0), .val (.int ((nar .byte (((128 : Int32) ||| ((vc >>> ((6 : Int32) &&& 31)) &&& (63 : Int32))).toInt8.toInt32)) &&& (255 : Int32))), .unset, .unset]) rfl k) ?_
      show OGo p e below s _ _ _ (T127.setTop (mkF m 271 #[.val (.int va), .val (.int vb), .val (.int vs_), .val (.int vc), .val (.int vo), .val (.int vf), .val (.ref b53), .val (.int (((vo + (1 : Int32)) + (1 : Int32)) + (1 : Int32))), .val (.int (3 : Int32)), .val (.int r0), .val (.int ((nar .byte (((128 : Int32) ||| ((vc >>> ((6 : Int32) &&& 31)) &&& (63 : Int32))).toInt8.toInt32)) &&& (255 : Int32))), .unset, .unset] []))
      generalize hv_r1 : ((nar .byte (((128 : Int32) ||| ((vc >>> ((6 : Int32) &&& 31)) &&& (63 : Int32))).toInt8.toInt32)) &&& (255 : Int32)) = r1
      show OGo p e below s _ _ _ (T127.setTop (mkF m 271 #[.val (.int va), .val (.int vb), .val (.int vs_), .val (.int vc), .val (.int vo), .val (.int vf), .val (.ref b53), .val (.int (((vo + (1 : Int32)) + (1 : Int32)) + (1 : Int32))), .val (.int (3 : Int32)), .val (.int r0), .val (.int r1), .unset, .unset] []))
      refine OGo.on (fun t k => XS.aload Xh128.here hx rfl (hb hby at_271) rfl rfl k) ?_
      show OGo p e below s _ _ _ (T127.setTop (mkF m 273 #[.val (.int va), .val (.int vb), .val (.int vs_), .val (.int vc), .val (.int vo), .val (.int vf), .val (.ref b53), .val (.int (((vo + (1 : Int32)) + (1 : Int32)) + (1 : Int32))), .val (.int (3 : Int32)), .val (.int r0), .val (.int r1), .unset, .unset] [(.ref b53)]))
      refine OGo.on (fun t k => XS.iload Xh128.here hx rfl (hb hby at_273) rfl k) ?_
      show OGo p e below s _ _ _ (T127.setTop (mkF m 275 #[.val (.int va), .val (.int vb), .val (.int vs_), .val (.int vc), .val (.int vo), .val (.int vf), .val (.ref b53), .val (.int (((vo + (1 : Int32)) + (1 : Int32)) + (1 : Int32))), .val (.int (3 : Int32)), .val (.int r0), .val (.int r1), .unset, .unset] [(.int vo), (.ref b53)]))
      refine OGo.on (fun t k => XS.iconst Xh128.here hx rfl (hb hby at_275) k) ?_
      show OGo p e below s _ _ _ (T127.setTop (mkF m 276 #[.val (.int va), .val (.int vb), .val (.int vs_), .val (.int vc), .val (.int vo), .val (.int vf), .val (.ref b53), .val (.int (((vo + (1 : Int32)) + (1 : Int32)) + (1 : Int32))), .val (.int (3 : Int32)), .val (.int r0), .val (.int r1), .unset, .unset] [(.int (2 : Int32)), (.int vo), (.ref b53)]))
      refine OGo.on (fun t k => XS.iadd Xh128.here hx rfl (hb hby at_276) rfl k) ?_
      show OGo p e below s _ _ _ (T127.setTop (mkF m 277 #[.val (.int va), .val (.int vb), .val (.int vs_), .val (.int vc), .val (.int vo), .val (.int vf), .val (.ref b53), .val (.int (((vo + (1 : Int32)) + (1 : Int32)) + (1 : Int32))), .val (.int (3 : Int32)), .val (.int r0), .val (.int r1), .unset, .unset] [(.int (vo + (2 : Int32))), (.ref b53)]))
      refine OGo.on (fun t k => OAL.baB Xh128 hx hZ e127 V112 (own_rd3 ho vf _ _ _).2.2.1 (hb hby at_277) k) ?_
      show OGo p e below s _ _ _ (T127.setTop (mkF m 278 #[.val (.int va), .val (.int vb), .val (.int vs_), .val (.int vc), .val (.int vo), .val (.int vf), .val (.ref b53), .val (.int (((vo + (1 : Int32)) + (1 : Int32)) + (1 : Int32))), .val (.int (3 : Int32)), .val (.int r0), .val (.int r1), .unset, .unset] [(.int (nar .byte (((128 : Int32) ||| (vc &&& (63 : Int32))).toInt8.toInt32)))]))
      refine OGo.on (fun t k => XS.sipush Xh128.here hx rfl (hb hby at_278) k) ?_
      show OGo p e below s _ _ _ (T127.setTop (mkF m 281 #[.val (.int va), .val (.int vb), .val (.int vs_), .val (.int vc), .val (.int vo), .val (.int vf), .val (.ref b53), .val (.int (((vo + (1 : Int32)) + (1 : Int32)) + (1 : Int32))), .val (.int (3 : Int32)), .val (.int r0), .val (.int r1), .unset, .unset] [(.int (255 : Int32)), (.int (nar .byte (((128 : Int32) ||| (vc &&& (63 : Int32))).toInt8.toInt32)))]))
      refine OGo.on (fun t k => XS.iand Xh128.here hx rfl (hb hby at_281) rfl k) ?_
      show OGo p e below s _ _ _ (T127.setTop (mkF m 282 #[.val (.int va), .val (.int vb), .val (.int vs_), .val (.int vc), .val (.int vo), .val (.int vf), .val (.ref b53), .val (.int (((vo + (1 : Int32)) + (1 : Int32)) + (1 : Int32))), .val (.int (3 : Int32)), .val (.int r0), .val (.int r1), .unset, .unset] [(.int ((nar .byte (((128 : Int32) ||| (vc &&& (63 : Int32))).toInt8.toInt32)) &&& (255 : Int32)))]))
      refine OGo.on (fun t k => XS.istore Xh128.here hx rfl (hb hby at_282) rfl (l' := #[.val (.int va), .val (.int vb), .val (.int vs_), .val (.int vc), .val (.int vo), .val (.int vf), .val (.ref b53), .val (.int (((vo + (1 : Int32)) + (1 : Int32)) + (1 : Int32))), .val (.int (3 : Int32)), .val (.int r0), .val (.int r1), .val (.int ((nar .byte (((128 : Int32) ||| (vc &&& (63 : Int32))).toInt8.toInt32)) &&& (255 : Int32))), .unset]) rfl k) ?_
      show OGo p e below s _ _ _ (T127.setTop (mkF m 284 #[.val (.int va), .val (.int vb), .val (.int vs_), .val (.int vc), .val (.int vo), .val (.int vf), .val (.ref b53), .val (.int (((vo + (1 : Int32)) + (1 : Int32)) + (1 : Int32))), .val (.int (3 : Int32)), .val (.int r0), .val (.int r1), .val (.int ((nar .byte (((128 : Int32) ||| (vc &&& (63 : Int32))).toInt8.toInt32)) &&& (255 : Int32))), .unset] []))
      generalize hv_r2 : ((nar .byte (((128 : Int32) ||| (vc &&& (63 : Int32))).toInt8.toInt32)) &&& (255 : Int32)) = r2
      show OGo p e below s _ _ _ (T127.setTop (mkF m 284 #[.val (.int va), .val (.int vb), .val (.int vs_), .val (.int vc), .val (.int vo), .val (.int vf), .val (.ref b53), .val (.int (((vo + (1 : Int32)) + (1 : Int32)) + (1 : Int32))), .val (.int (3 : Int32)), .val (.int r0), .val (.int r1), .val (.int r2), .unset] []))
      refine OGo.on (fun t k => XS.aload Xh128.here hx rfl (hb hby at_284) rfl rfl k) ?_
      show OGo p e below s _ _ _ (T127.setTop (mkF m 286 #[.val (.int va), .val (.int vb), .val (.int vs_), .val (.int vc), .val (.int vo), .val (.int vf), .val (.ref b53), .val (.int (((vo + (1 : Int32)) + (1 : Int32)) + (1 : Int32))), .val (.int (3 : Int32)), .val (.int r0), .val (.int r1), .val (.int r2), .unset] [(.ref b53)]))
      refine OGo.on (fun t k => XS.iload Xh128.here hx rfl (hb hby at_286) rfl k) ?_
      show OGo p e below s _ _ _ (T127.setTop (mkF m 288 #[.val (.int va), .val (.int vb), .val (.int vs_), .val (.int vc), .val (.int vo), .val (.int vf), .val (.ref b53), .val (.int (((vo + (1 : Int32)) + (1 : Int32)) + (1 : Int32))), .val (.int (3 : Int32)), .val (.int r0), .val (.int r1), .val (.int r2), .unset] [(.int vo), (.ref b53)]))
      refine OGo.on (fun t k => XS.iconst Xh128.here hx rfl (hb hby at_288) k) ?_
      show OGo p e below s _ _ _ (T127.setTop (mkF m 289 #[.val (.int va), .val (.int vb), .val (.int vs_), .val (.int vc), .val (.int vo), .val (.int vf), .val (.ref b53), .val (.int (((vo + (1 : Int32)) + (1 : Int32)) + (1 : Int32))), .val (.int (3 : Int32)), .val (.int r0), .val (.int r1), .val (.int r2), .unset] [(.int (3 : Int32)), (.int vo), (.ref b53)]))
      refine OGo.on (fun t k => XS.iadd Xh128.here hx rfl (hb hby at_289) rfl k) ?_
      show OGo p e below s _ _ _ (T127.setTop (mkF m 290 #[.val (.int va), .val (.int vb), .val (.int vs_), .val (.int vc), .val (.int vo), .val (.int vf), .val (.ref b53), .val (.int (((vo + (1 : Int32)) + (1 : Int32)) + (1 : Int32))), .val (.int (3 : Int32)), .val (.int r0), .val (.int r1), .val (.int r2), .unset] [(.int (vo + (3 : Int32))), (.ref b53)]))
      refine OGo.on (fun t k => OAL.baB Xh128 hx hZ e127 V112 (own_rd3 ho vf _ _ _).2.2.2 (hb hby at_290) k) ?_
      show OGo p e below s _ _ _ (T127.setTop (mkF m 291 #[.val (.int va), .val (.int vb), .val (.int vs_), .val (.int vc), .val (.int vo), .val (.int vf), .val (.ref b53), .val (.int (((vo + (1 : Int32)) + (1 : Int32)) + (1 : Int32))), .val (.int (3 : Int32)), .val (.int r0), .val (.int r1), .val (.int r2), .unset] [(.int vf)]))
      refine OGo.on (fun t k => XS.sipush Xh128.here hx rfl (hb hby at_291) k) ?_
      show OGo p e below s _ _ _ (T127.setTop (mkF m 294 #[.val (.int va), .val (.int vb), .val (.int vs_), .val (.int vc), .val (.int vo), .val (.int vf), .val (.ref b53), .val (.int (((vo + (1 : Int32)) + (1 : Int32)) + (1 : Int32))), .val (.int (3 : Int32)), .val (.int r0), .val (.int r1), .val (.int r2), .unset] [(.int (255 : Int32)), (.int vf)]))
      refine OGo.on (fun t k => XS.iand Xh128.here hx rfl (hb hby at_294) rfl k) ?_
      show OGo p e below s _ _ _ (T127.setTop (mkF m 295 #[.val (.int va), .val (.int vb), .val (.int vs_), .val (.int vc), .val (.int vo), .val (.int vf), .val (.ref b53), .val (.int (((vo + (1 : Int32)) + (1 : Int32)) + (1 : Int32))), .val (.int (3 : Int32)), .val (.int r0), .val (.int r1), .val (.int r2), .unset] [(.int (vf &&& (255 : Int32)))]))
      refine OGo.on (fun t k => XS.istore Xh128.here hx rfl (hb hby at_295) rfl (l' := #[.val (.int va), .val (.int vb), .val (.int vs_), .val (.int vc), .val (.int vo), .val (.int vf), .val (.ref b53), .val (.int (((vo + (1 : Int32)) + (1 : Int32)) + (1 : Int32))), .val (.int (3 : Int32)), .val (.int r0), .val (.int r1), .val (.int r2), .val (.int (vf &&& (255 : Int32)))]) rfl k) ?_
      show OGo p e below s _ _ _ (T127.setTop (mkF m 297 #[.val (.int va), .val (.int vb), .val (.int vs_), .val (.int vc), .val (.int vo), .val (.int vf), .val (.ref b53), .val (.int (((vo + (1 : Int32)) + (1 : Int32)) + (1 : Int32))), .val (.int (3 : Int32)), .val (.int r0), .val (.int r1), .val (.int r2), .val (.int (vf &&& (255 : Int32)))] []))
      generalize hv_r3 : (vf &&& (255 : Int32)) = r3
      show OGo p e below s _ _ _ (T127.setTop (mkF m 297 #[.val (.int va), .val (.int vb), .val (.int vs_), .val (.int vc), .val (.int vo), .val (.int vf), .val (.ref b53), .val (.int (((vo + (1 : Int32)) + (1 : Int32)) + (1 : Int32))), .val (.int (3 : Int32)), .val (.int r0), .val (.int r1), .val (.int r2), .val (.int r3)] []))
      have e0 : n32 r0 = 224 + n32 vc / 4096 := by rw [← hv_r0]; exact own_ld vc ((12 : Int32) &&& 31) 224 (k := 12) (M := 224) (j := 4) (q := 14) (by omega) (by decide) (by decide) (by decide) (by decide) (by omega)
      have e1 : n32 r1 = 128 + n32 vc / 64 % 64 := by rw [← hv_r1]; exact own_ct vc ((6 : Int32) &&& 31) (k := 6) (by omega) (by decide)
      have e2 : n32 r2 = 128 + n32 vc % 64 := by rw [← hv_r2]; exact own_ct0 vc (by omega)
      refine OGo.on (fun t k => XS.iload Xh128.here hx rfl (hb hby at_297) rfl k) ?_
      show OGo p e below s _ _ _ (T127.setTop (mkF m 299 #[.val (.int va), .val (.int vb), .val (.int vs_), .val (.int vc), .val (.int vo), .val (.int vf), .val (.ref b53), .val (.int (((vo + (1 : Int32)) + (1 : Int32)) + (1 : Int32))), .val (.int (3 : Int32)), .val (.int r0), .val (.int r1), .val (.int r2), .val (.int r3)] [(.int (3 : Int32))]))
      refine OGo.on (fun t k => XS.iconst Xh128.here hx rfl (hb hby at_299) k) ?_
      show OGo p e below s _ _ _ (T127.setTop (mkF m 300 #[.val (.int va), .val (.int vb), .val (.int vs_), .val (.int vc), .val (.int vo), .val (.int vf), .val (.ref b53), .val (.int (((vo + (1 : Int32)) + (1 : Int32)) + (1 : Int32))), .val (.int (3 : Int32)), .val (.int r0), .val (.int r1), .val (.int r2), .val (.int r3)] [(.int (2 : Int32)), (.int (3 : Int32))]))
      refine OGo.on (fun t k => XS.icmpYes Xh128.here hx rfl (pc0 := 300) (pc' := 347) rfl (hb hby at_300) rfl (feq (by decide)).2 (by decide) (by decide) k) ?_
      show OGo p e below s _ _ _ (T127.setTop (mkF m 347 #[.val (.int va), .val (.int vb), .val (.int vs_), .val (.int vc), .val (.int vo), .val (.int vf), .val (.ref b53), .val (.int (((vo + (1 : Int32)) + (1 : Int32)) + (1 : Int32))), .val (.int (3 : Int32)), .val (.int r0), .val (.int r1), .val (.int r2), .val (.int r3)] []))
      refine OGo.on (fun t k => XS.iload Xh128.here hx rfl (hb hby at_347) rfl k) ?_
      show OGo p e below s _ _ _ (T127.setTop (mkF m 349 #[.val (.int va), .val (.int vb), .val (.int vs_), .val (.int vc), .val (.int vo), .val (.int vf), .val (.ref b53), .val (.int (((vo + (1 : Int32)) + (1 : Int32)) + (1 : Int32))), .val (.int (3 : Int32)), .val (.int r0), .val (.int r1), .val (.int r2), .val (.int r3)] [(.int (3 : Int32))]))
      refine OGo.on (fun t k => XS.iconst Xh128.here hx rfl (hb hby at_349) k) ?_
      show OGo p e below s _ _ _ (T127.setTop (mkF m 350 #[.val (.int va), .val (.int vb), .val (.int vs_), .val (.int vc), .val (.int vo), .val (.int vf), .val (.ref b53), .val (.int (((vo + (1 : Int32)) + (1 : Int32)) + (1 : Int32))), .val (.int (3 : Int32)), .val (.int r0), .val (.int r1), .val (.int r2), .val (.int r3)] [(.int (3 : Int32)), (.int (3 : Int32))]))
      refine OGo.on (fun t k => XS.icmpNo Xh128.here hx rfl (hb hby at_350) rfl (teq (by decide)).2 k) ?_
      show OGo p e below s _ _ _ (T127.setTop (mkF m 353 #[.val (.int va), .val (.int vb), .val (.int vs_), .val (.int vc), .val (.int vo), .val (.int vf), .val (.ref b53), .val (.int (((vo + (1 : Int32)) + (1 : Int32)) + (1 : Int32))), .val (.int (3 : Int32)), .val (.int r0), .val (.int r1), .val (.int r2), .val (.int r3)] []))
      refine OGo.on (fun t k => XS.iload Xh128.here hx rfl (hb hby at_353) rfl k) ?_
      show OGo p e below s _ _ _ (T127.setTop (mkF m 355 #[.val (.int va), .val (.int vb), .val (.int vs_), .val (.int vc), .val (.int vo), .val (.int vf), .val (.ref b53), .val (.int (((vo + (1 : Int32)) + (1 : Int32)) + (1 : Int32))), .val (.int (3 : Int32)), .val (.int r0), .val (.int r1), .val (.int r2), .val (.int r3)] [(.int r0)]))
      refine OGo.on (fun t k => XS.sipush Xh128.here hx rfl (hb hby at_355) k) ?_
      show OGo p e below s _ _ _ (T127.setTop (mkF m 358 #[.val (.int va), .val (.int vb), .val (.int vs_), .val (.int vc), .val (.int vo), .val (.int vf), .val (.ref b53), .val (.int (((vo + (1 : Int32)) + (1 : Int32)) + (1 : Int32))), .val (.int (3 : Int32)), .val (.int r0), .val (.int r1), .val (.int r2), .val (.int r3)] [(.int (240 : Int32)), (.int r0)]))
      refine OGo.on (fun t k => XS.iand Xh128.here hx rfl (hb hby at_358) rfl k) ?_
      show OGo p e below s _ _ _ (T127.setTop (mkF m 359 #[.val (.int va), .val (.int vb), .val (.int vs_), .val (.int vc), .val (.int vo), .val (.int vf), .val (.ref b53), .val (.int (((vo + (1 : Int32)) + (1 : Int32)) + (1 : Int32))), .val (.int (3 : Int32)), .val (.int r0), .val (.int r1), .val (.int r2), .val (.int r3)] [(.int (r0 &&& (240 : Int32)))]))
      refine OGo.on (fun t k => XS.sipush Xh128.here hx rfl (hb hby at_359) k) ?_
      show OGo p e below s _ _ _ (T127.setTop (mkF m 362 #[.val (.int va), .val (.int vb), .val (.int vs_), .val (.int vc), .val (.int vo), .val (.int vf), .val (.ref b53), .val (.int (((vo + (1 : Int32)) + (1 : Int32)) + (1 : Int32))), .val (.int (3 : Int32)), .val (.int r0), .val (.int r1), .val (.int r2), .val (.int r3)] [(.int (224 : Int32)), (.int (r0 &&& (240 : Int32)))]))
      refine OGo.on (fun t k => XS.icmpNo Xh128.here hx rfl (hb hby at_362) rfl (teq (own_hd3 e0 (by omega)).1).2 k) ?_
      show OGo p e below s _ _ _ (T127.setTop (mkF m 365 #[.val (.int va), .val (.int vb), .val (.int vs_), .val (.int vc), .val (.int vo), .val (.int vf), .val (.ref b53), .val (.int (((vo + (1 : Int32)) + (1 : Int32)) + (1 : Int32))), .val (.int (3 : Int32)), .val (.int r0), .val (.int r1), .val (.int r2), .val (.int r3)] []))
      refine OGo.on (fun t k => XS.iload Xh128.here hx rfl (hb hby at_365) rfl k) ?_
      show OGo p e below s _ _ _ (T127.setTop (mkF m 367 #[.val (.int va), .val (.int vb), .val (.int vs_), .val (.int vc), .val (.int vo), .val (.int vf), .val (.ref b53), .val (.int (((vo + (1 : Int32)) + (1 : Int32)) + (1 : Int32))), .val (.int (3 : Int32)), .val (.int r0), .val (.int r1), .val (.int r2), .val (.int r3)] [(.int r1)]))
      obtain ⟨_, _, ⟨T129, L129, k129, n129⟩, -, X129, ⟨Lc129, hQ129, l129, y129, z129⟩, st129⟩ := Jvm.LawKit.callS Xh128 hx (y := (⟨"com/example/libmsgframe/libmsgframe/Utf8PutBeyondAsciiPinLaw", "cont", "(I)Z"⟩ : MethodName)) hown (mvT hZ (hw _ (List.mem_of_getElem? (i := 11) rfl))) (mvT hZ (hw _ (List.mem_of_getElem? (i := 12) rfl))) (mvT hZ (hw _ (List.mem_of_getElem? (i := 9) rfl))) (mvT hZ (hw _ (List.mem_of_getElem? (i := 13) rfl))) (by decide) (backOf (W := 0) (own_mcont l Z a0 hw [] r1 T88.heap n0 Z89) hZ (hw _ (List.mem_of_getElem? (i := 13) rfl)) (hw _ (List.mem_of_getElem? (i := 9) rfl)) (by decide) (by decide)) (g := (mkF m 367 #[.val (.int va), .val (.int vb), .val (.int vs_), .val (.int vc), .val (.int vo), .val (.int vf), .val (.ref b53), .val (.int (((vo + (1 : Int32)) + (1 : Int32)) + (1 : Int32))), .val (.int (3 : Int32)), .val (.int r0), .val (.int r1), .val (.int r2), .val (.int r3)] [(.int r1)])) rfl (by rw [hml]; rfl) (argsL := [(.int r1)]) (rest := []) (lenOf own_pd2 rfl) rfl (by show 2 * 0 + _ ≤ _; exact Nat.le_of_eq rfl) (hb hby at_367) (fun _ _ => ⟨rfl, e127, (by decide : 1 + 0 ≤ _), (by decide : 8 + 0 ≤ _)⟩)
      dsimp only [Pt.U, Pt.locs, Pt.cells, Pt.slots] at X129 l129 y129 z129 st129 hQ129
      subst l129 y129 z129
      obtain ⟨rfl, N129q, e129⟩ := hQ129
      have N129 := Fr.app Nh128 N129q
      obtain ⟨Lh130, Xh130, Nh130⟩ := own_hide X129 N129
      refine OGo.on st129 ?_
      show OGo p e below s _ _ _ (T129.setTop (mkF m 370 #[.val (.int va), .val (.int vb), .val (.int vs_), .val (.int vc), .val (.int vo), .val (.int vf), .val (.ref b53), .val (.int (((vo + (1 : Int32)) + (1 : Int32)) + (1 : Int32))), .val (.int (3 : Int32)), .val (.int r0), .val (.int r1), .val (.int r2), .val (.int r3)] [(.int (own_cont r1))]))
      refine OGo.on (fun t k => XS.ifNo Xh130.here hx rfl (hb hby at_370) rfl ((if0 _ _).trans (feq (own_cont1 e1 (by omega))).1) k) ?_
      show OGo p e below s _ _ _ (T129.setTop (mkF m 373 #[.val (.int va), .val (.int vb), .val (.int vs_), .val (.int vc), .val (.int vo), .val (.int vf), .val (.ref b53), .val (.int (((vo + (1 : Int32)) + (1 : Int32)) + (1 : Int32))), .val (.int (3 : Int32)), .val (.int r0), .val (.int r1), .val (.int r2), .val (.int r3)] []))
      refine OGo.on (fun t k => XS.iload Xh130.here hx rfl (hb hby at_373) rfl k) ?_
      show OGo p e below s _ _ _ (T129.setTop (mkF m 375 #[.val (.int va), .val (.int vb), .val (.int vs_), .val (.int vc), .val (.int vo), .val (.int vf), .val (.ref b53), .val (.int (((vo + (1 : Int32)) + (1 : Int32)) + (1 : Int32))), .val (.int (3 : Int32)), .val (.int r0), .val (.int r1), .val (.int r2), .val (.int r3)] [(.int r2)]))
      obtain ⟨_, _, ⟨T131, L131, k131, n131⟩, -, X131, ⟨Lc131, hQ131, l131, y131, z131⟩, st131⟩ := Jvm.LawKit.callS Xh130 hx (y := (⟨"com/example/libmsgframe/libmsgframe/Utf8PutBeyondAsciiPinLaw", "cont", "(I)Z"⟩ : MethodName)) hown (mvT hZ (hw _ (List.mem_of_getElem? (i := 11) rfl))) (mvT hZ (hw _ (List.mem_of_getElem? (i := 12) rfl))) (mvT hZ (hw _ (List.mem_of_getElem? (i := 9) rfl))) (mvT hZ (hw _ (List.mem_of_getElem? (i := 13) rfl))) (by decide) (backOf (W := 0) (own_mcont l Z a0 hw [] r2 T88.heap n0 Z89) hZ (hw _ (List.mem_of_getElem? (i := 13) rfl)) (hw _ (List.mem_of_getElem? (i := 9) rfl)) (by decide) (by decide)) (g := (mkF m 375 #[.val (.int va), .val (.int vb), .val (.int vs_), .val (.int vc), .val (.int vo), .val (.int vf), .val (.ref b53), .val (.int (((vo + (1 : Int32)) + (1 : Int32)) + (1 : Int32))), .val (.int (3 : Int32)), .val (.int r0), .val (.int r1), .val (.int r2), .val (.int r3)] [(.int r2)])) rfl (by rw [hml]; rfl) (argsL := [(.int r2)]) (rest := []) (lenOf own_pd2 rfl) rfl (by show 2 * 0 + _ ≤ _; exact Nat.le_of_eq rfl) (hb hby at_375) (fun _ _ => ⟨rfl, e129, (by decide : 1 + 0 ≤ _), (by decide : 8 + 0 ≤ _)⟩)
      dsimp only [Pt.U, Pt.locs, Pt.cells, Pt.slots] at X131 l131 y131 z131 st131 hQ131
      subst l131 y131 z131
      obtain ⟨rfl, N131q, e131⟩ := hQ131
      have N131 := Fr.app Nh130 N131q
      obtain ⟨Lh132, Xh132, Nh132⟩ := own_hide X131 N131
      refine OGo.on st131 ?_
      show OGo p e below s _ _ _ (T131.setTop (mkF m 378 #[.val (.int va), .val (.int vb), .val (.int vs_), .val (.int vc), .val (.int vo), .val (.int vf), .val (.ref b53), .val (.int (((vo + (1 : Int32)) + (1 : Int32)) + (1 : Int32))), .val (.int (3 : Int32)), .val (.int r0), .val (.int r1), .val (.int r2), .val (.int r3)] [(.int (own_cont r2))]))
      refine OGo.on (fun t k => XS.ifNo Xh132.here hx rfl (hb hby at_378) rfl ((if0 _ _).trans (feq (own_cont1 e2 (by omega))).1) k) ?_
      show OGo p e below s _ _ _ (T131.setTop (mkF m 381 #[.val (.int va), .val (.int vb), .val (.int vs_), .val (.int vc), .val (.int vo), .val (.int vf), .val (.ref b53), .val (.int (((vo + (1 : Int32)) + (1 : Int32)) + (1 : Int32))), .val (.int (3 : Int32)), .val (.int r0), .val (.int r1), .val (.int r2), .val (.int r3)] []))
      refine OGo.on (fun t k => XS.iload Xh132.here hx rfl (hb hby at_381) rfl k) ?_
      show OGo p e below s _ _ _ (T131.setTop (mkF m 383 #[.val (.int va), .val (.int vb), .val (.int vs_), .val (.int vc), .val (.int vo), .val (.int vf), .val (.ref b53), .val (.int (((vo + (1 : Int32)) + (1 : Int32)) + (1 : Int32))), .val (.int (3 : Int32)), .val (.int r0), .val (.int r1), .val (.int r2), .val (.int r3)] [(.int r0)]))
      refine OGo.on (fun t k => XS.bipush Xh132.here hx rfl (hb hby at_383) k) ?_
      show OGo p e below s _ _ _ (T131.setTop (mkF m 385 #[.val (.int va), .val (.int vb), .val (.int vs_), .val (.int vc), .val (.int vo), .val (.int vf), .val (.ref b53), .val (.int (((vo + (1 : Int32)) + (1 : Int32)) + (1 : Int32))), .val (.int (3 : Int32)), .val (.int r0), .val (.int r1), .val (.int r2), .val (.int r3)] [(.int (15 : Int32)), (.int r0)]))
      refine OGo.on (fun t k => XS.iand Xh132.here hx rfl (hb hby at_385) rfl k) ?_
      show OGo p e below s _ _ _ (T131.setTop (mkF m 386 #[.val (.int va), .val (.int vb), .val (.int vs_), .val (.int vc), .val (.int vo), .val (.int vf), .val (.ref b53), .val (.int (((vo + (1 : Int32)) + (1 : Int32)) + (1 : Int32))), .val (.int (3 : Int32)), .val (.int r0), .val (.int r1), .val (.int r2), .val (.int r3)] [(.int (r0 &&& (15 : Int32)))]))
      refine OGo.on (fun t k => XS.bipush Xh132.here hx rfl (hb hby at_386) k) ?_
      show OGo p e below s _ _ _ (T131.setTop (mkF m 388 #[.val (.int va), .val (.int vb), .val (.int vs_), .val (.int vc), .val (.int vo), .val (.int vf), .val (.ref b53), .val (.int (((vo + (1 : Int32)) + (1 : Int32)) + (1 : Int32))), .val (.int (3 : Int32)), .val (.int r0), .val (.int r1), .val (.int r2), .val (.int r3)] [(.int (12 : Int32)), (.int (r0 &&& (15 : Int32)))]))
      refine OGo.on (fun t k => XS.ishl Xh132.here hx rfl (hb hby at_388) rfl k) ?_
      show OGo p e below s _ _ _ (T131.setTop (mkF m 389 #[.val (.int va), .val (.int vb), .val (.int vs_), .val (.int vc), .val (.int vo), .val (.int vf), .val (.ref b53), .val (.int (((vo + (1 : Int32)) + (1 : Int32)) + (1 : Int32))), .val (.int (3 : Int32)), .val (.int r0), .val (.int r1), .val (.int r2), .val (.int r3)] [(.int ((r0 &&& (15 : Int32)) <<< ((12 : Int32) &&& 31)))]))
      refine OGo.on (fun t k => XS.iload Xh132.here hx rfl (hb hby at_389) rfl k) ?_
      show OGo p e below s _ _ _ (T131.setTop (mkF m 391 #[.val (.int va), .val (.int vb), .val (.int vs_), .val (.int vc), .val (.int vo), .val (.int vf), .val (.ref b53), .val (.int (((vo + (1 : Int32)) + (1 : Int32)) + (1 : Int32))), .val (.int (3 : Int32)), .val (.int r0), .val (.int r1), .val (.int r2), .val (.int r3)] [(.int r1), (.int ((r0 &&& (15 : Int32)) <<< ((12 : Int32) &&& 31)))]))
      refine OGo.on (fun t k => XS.bipush Xh132.here hx rfl (hb hby at_391) k) ?_
      show OGo p e below s _ _ _ (T131.setTop (mkF m 393 #[.val (.int va), .val (.int vb), .val (.int vs_), .val (.int vc), .val (.int vo), .val (.int vf), .val (.ref b53), .val (.int (((vo + (1 : Int32)) + (1 : Int32)) + (1 : Int32))), .val (.int (3 : Int32)), .val (.int r0), .val (.int r1), .val (.int r2), .val (.int r3)] [(.int (63 : Int32)), (.int r1), (.int ((r0 &&& (15 : Int32)) <<< ((12 : Int32) &&& 31)))]))
      refine OGo.on (fun t k => XS.iand Xh132.here hx rfl (hb hby at_393) rfl k) ?_
      show OGo p e below s _ _ _ (T131.setTop (mkF m 394 #[.val (.int va), .val (.int vb), .val (.int vs_), .val (.int vc), .val (.int vo), .val (.int vf), .val (.ref b53), .val (.int (((vo + (1 : Int32)) + (1 : Int32)) + (1 : Int32))), .val (.int (3 : Int32)), .val (.int r0), .val (.int r1), .val (.int r2), .val (.int r3)] [(.int (r1 &&& (63 : Int32))), (.int ((r0 &&& (15 : Int32)) <<< ((12 : Int32) &&& 31)))]))
      refine OGo.on (fun t k => XS.bipush Xh132.here hx rfl (hb hby at_394) k) ?_
      show OGo p e below s _ _ _ (T131.setTop (mkF m 396 #[.val (.int va), .val (.int vb), .val (.int vs_), .val (.int vc), .val (.int vo), .val (.int vf), .val (.ref b53), .val (.int (((vo + (1 : Int32)) + (1 : Int32)) + (1 : Int32))), .val (.int (3 : Int32)), .val (.int r0), .val (.int r1), .val (.int r2), .val (.int r3)] [(.int (6 : Int32)), (.int (r1 &&& (63 : Int32))), (.int ((r0 &&& (15 : Int32)) <<< ((12 : Int32) &&& 31)))]))
      refine OGo.on (fun t k => XS.ishl Xh132.here hx rfl (hb hby at_396) rfl k) ?_
      show OGo p e below s _ _ _ (T131.setTop (mkF m 397 #[.val (.int va), .val (.int vb), .val (.int vs_), .val (.int vc), .val (.int vo), .val (.int vf), .val (.ref b53), .val (.int (((vo + (1 : Int32)) + (1 : Int32)) + (1 : Int32))), .val (.int (3 : Int32)), .val (.int r0), .val (.int r1), .val (.int r2), .val (.int r3)] [(.int ((r1 &&& (63 : Int32)) <<< ((6 : Int32) &&& 31))), (.int ((r0 &&& (15 : Int32)) <<< ((12 : Int32) &&& 31)))]))
      refine OGo.on (fun t k => XS.ior Xh132.here hx rfl (hb hby at_397) rfl k) ?_
      show OGo p e below s _ _ _ (T131.setTop (mkF m 398 #[.val (.int va), .val (.int vb), .val (.int vs_), .val (.int vc), .val (.int vo), .val (.int vf), .val (.ref b53), .val (.int (((vo + (1 : Int32)) + (1 : Int32)) + (1 : Int32))), .val (.int (3 : Int32)), .val (.int r0), .val (.int r1), .val (.int r2), .val (.int r3)] [(.int (((r0 &&& (15 : Int32)) <<< ((12 : Int32) &&& 31)) ||| ((r1 &&& (63 : Int32)) <<< ((6 : Int32) &&& 31))))]))
      refine OGo.on (fun t k => XS.iload Xh132.here hx rfl (hb hby at_398) rfl k) ?_
      show OGo p e below s _ _ _ (T131.setTop (mkF m 400 #[.val (.int va), .val (.int vb), .val (.int vs_), .val (.int vc), .val (.int vo), .val (.int vf), .val (.ref b53), .val (.int (((vo + (1 : Int32)) + (1 : Int32)) + (1 : Int32))), .val (.int (3 : Int32)), .val (.int r0), .val (.int r1), .val (.int r2), .val (.int r3)] [(.int r2), (.int (((r0 &&& (15 : Int32)) <<< ((12 : Int32) &&& 31)) ||| ((r1 &&& (63 : Int32)) <<< ((6 : Int32) &&& 31))))]))
      refine OGo.on (fun t k => XS.bipush Xh132.here hx rfl (hb hby at_400) k) ?_
      show OGo p e below s _ _ _ (T131.setTop (mkF m 402 #[.val (.int va), .val (.int vb), .val (.int vs_), .val (.int vc), .val (.int vo), .val (.int vf), .val (.ref b53), .val (.int (((vo + (1 : Int32)) + (1 : Int32)) + (1 : Int32))), .val (.int (3 : Int32)), .val (.int r0), .val (.int r1), .val (.int r2), .val (.int r3)] [(.int (63 : Int32)), (.int r2), (.int (((r0 &&& (15 : Int32)) <<< ((12 : Int32) &&& 31)) ||| ((r1 &&& (63 : Int32)) <<< ((6 : Int32) &&& 31))))]))
      refine OGo.on (fun t k => XS.iand Xh132.here hx rfl (hb hby at_402) rfl k) ?_
      show OGo p e below s _ _ _ (T131.setTop (mkF m 403 #[.val (.int va), .val (.int vb), .val (.int vs_), .val (.int vc), .val (.int vo), .val (.int vf), .val (.ref b53), .val (.int (((vo + (1 : Int32)) + (1 : Int32)) + (1 : Int32))), .val (.int (3 : Int32)), .val (.int r0), .val (.int r1), .val (.int r2), .val (.int r3)] [(.int (r2 &&& (63 : Int32))), (.int (((r0 &&& (15 : Int32)) <<< ((12 : Int32) &&& 31)) ||| ((r1 &&& (63 : Int32)) <<< ((6 : Int32) &&& 31))))]))
      refine OGo.on (fun t k => XS.ior Xh132.here hx rfl (hb hby at_403) rfl k) ?_
      show OGo p e below s _ _ _ (T131.setTop (mkF m 404 #[.val (.int va), .val (.int vb), .val (.int vs_), .val (.int vc), .val (.int vo), .val (.int vf), .val (.ref b53), .val (.int (((vo + (1 : Int32)) + (1 : Int32)) + (1 : Int32))), .val (.int (3 : Int32)), .val (.int r0), .val (.int r1), .val (.int r2), .val (.int r3)] [(.int ((((r0 &&& (15 : Int32)) <<< ((12 : Int32) &&& 31)) ||| ((r1 &&& (63 : Int32)) <<< ((6 : Int32) &&& 31))) ||| (r2 &&& (63 : Int32))))]))
      refine OGo.on (fun t k => XS.iloadN Xh132.here hx rfl (hb hby at_404) rfl k) ?_
      show OGo p e below s _ _ _ (T131.setTop (mkF m 405 #[.val (.int va), .val (.int vb), .val (.int vs_), .val (.int vc), .val (.int vo), .val (.int vf), .val (.ref b53), .val (.int (((vo + (1 : Int32)) + (1 : Int32)) + (1 : Int32))), .val (.int (3 : Int32)), .val (.int r0), .val (.int r1), .val (.int r2), .val (.int r3)] [(.int vc), (.int ((((r0 &&& (15 : Int32)) <<< ((12 : Int32) &&& 31)) ||| ((r1 &&& (63 : Int32)) <<< ((6 : Int32) &&& 31))) ||| (r2 &&& (63 : Int32))))]))
      refine OGo.on (fun t k => XS.icmpNo Xh132.here hx rfl (hb hby at_405) rfl (teq (own_a3 (own_hd3 e0 (by omega)).2 (own_low e1 (by omega)) (own_low e2 (by omega)) hN)).2 k) ?_
      show OGo p e below s _ _ _ (T131.setTop (mkF m 408 #[.val (.int va), .val (.int vb), .val (.int vs_), .val (.int vc), .val (.int vo), .val (.int vf), .val (.ref b53), .val (.int (((vo + (1 : Int32)) + (1 : Int32)) + (1 : Int32))), .val (.int (3 : Int32)), .val (.int r0), .val (.int r1), .val (.int r2), .val (.int r3)] []))
      refine OGo.on (fun t k => XS.iconst Xh132.here hx rfl (hb hby at_408) k) ?_
      show OGo p e below s _ _ _ (T131.setTop (mkF m 409 #[.val (.int va), .val (.int vb), .val (.int vs_), .val (.int vc), .val (.int vo), .val (.int vf), .val (.ref b53), .val (.int (((vo + (1 : Int32)) + (1 : Int32)) + (1 : Int32))), .val (.int (3 : Int32)), .val (.int r0), .val (.int r1), .val (.int r2), .val (.int r3)] [(.int (1 : Int32))]))
      refine OGo.on (fun t k => XS.goto Xh132.here hx rfl (pc0 := 409) (pc' := 413) rfl (hb hby at_409) (by decide) (by decide) k) ?_
      show OGo p e below s _ _ _ (T131.setTop (mkF m 413 #[.val (.int va), .val (.int vb), .val (.int vs_), .val (.int vc), .val (.int vo), .val (.int vf), .val (.ref b53), .val (.int (((vo + (1 : Int32)) + (1 : Int32)) + (1 : Int32))), .val (.int (3 : Int32)), .val (.int r0), .val (.int r1), .val (.int r2), .val (.int r3)] [(.int (1 : Int32))]))
      exact OGo.retN Xh132 hx (t := .boolean) hret hlk (by simp) (hb hby at_413) ⟨rfl, Nh132⟩ (by decide) (by decide)
    · refine OGo.on (fun t k => XS.icmpYes Xh90.here hx rfl (pc0 := 101) (pc' := 108) rfl (hb hby at_101) rfl (flt hc111).2.1 (by decide) (by decide) k) ?_
      show OGo p e below s _ _ _ (T88.setTop (mkF m 108 #[.val (.int va), .val (.int vb), .val (.int vs_), .val (.int vc), .val (.int vo), .val (.int vf), .val (.ref b53), .val (.int (own_end vo vc)), .unset, .unset, .unset, .unset, .unset] []))
      refine OGo.on (fun t k => XS.iconst Xh90.here hx rfl (hb hby at_108) k) ?_
      show OGo p e below s _ _ _ (T88.setTop (mkF m 109 #[.val (.int va), .val (.int vb), .val (.int vs_), .val (.int vc), .val (.int vo), .val (.int vf), .val (.ref b53), .val (.int (own_end vo vc)), .unset, .unset, .unset, .unset, .unset] [(.int (4 : Int32))]))
      have V133 : OAL Z T88.heap b53 .byte (((([vf, vf, vf, vf, vf, vf, vf, vf].set vo.toNatClampNeg (nar .byte (((240 : Int32) ||| (vc >>> ((18 : Int32) &&& 31))).toInt8.toInt32))).set (vo + (1 : Int32)).toNatClampNeg (nar .byte (((128 : Int32) ||| ((vc >>> ((12 : Int32) &&& 31)) &&& (63 : Int32))).toInt8.toInt32))).set ((vo + (1 : Int32)) + (1 : Int32)).toNatClampNeg (nar .byte (((128 : Int32) ||| ((vc >>> ((6 : Int32) &&& 31)) &&& (63 : Int32))).toInt8.toInt32))).set (((vo + (1 : Int32)) + (1 : Int32)) + (1 : Int32)).toNatClampNeg (nar .byte (((128 : Int32) ||| (vc &&& (63 : Int32))).toInt8.toInt32))) := by have q := A88; rw [own_wr4 hc91 hc111] at q; exact q
      rw [own_end4 hc91 hc111]
      show OGo p e below s _ _ _ (T88.setTop (mkF m 109 #[.val (.int va), .val (.int vb), .val (.int vs_), .val (.int vc), .val (.int vo), .val (.int vf), .val (.ref b53), .val (.int ((((vo + (1 : Int32)) + (1 : Int32)) + (1 : Int32)) + (1 : Int32))), .unset, .unset, .unset, .unset, .unset] [(.int (4 : Int32))]))
      have hM : 2048 ≤ n32 vc := Nat.le_of_not_lt fun q => hc91 ((own_ltN (n := 2048) (by omega) (by decide)).mpr q)
      refine OGo.on (fun t k => XS.istore Xh90.here hx rfl (hb hby at_109) rfl (l' := #[.val (.int va), .val (.int vb), .val (.int vs_), .val (.int vc), .val (.int vo), .val (.int vf), .val (.ref b53), .val (.int ((((vo + (1 : Int32)) + (1 : Int32)) + (1 : Int32)) + (1 : Int32))), .val (.int (4 : Int32)), .unset, .unset, .unset, .unset]) rfl k) ?_
      show OGo p e below s _ _ _ (T88.setTop (mkF m 111 #[.val (.int va), .val (.int vb), .val (.int vs_), .val (.int vc), .val (.int vo), .val (.int vf), .val (.ref b53), .val (.int ((((vo + (1 : Int32)) + (1 : Int32)) + (1 : Int32)) + (1 : Int32))), .val (.int (4 : Int32)), .unset, .unset, .unset, .unset] []))
      refine OGo.on (fun t k => XS.iload Xh90.here hx rfl (hb hby at_111) rfl k) ?_
      show OGo p e below s _ _ _ (T88.setTop (mkF m 113 #[.val (.int va), .val (.int vb), .val (.int vs_), .val (.int vc), .val (.int vo), .val (.int vf), .val (.ref b53), .val (.int ((((vo + (1 : Int32)) + (1 : Int32)) + (1 : Int32)) + (1 : Int32))), .val (.int (4 : Int32)), .unset, .unset, .unset, .unset] [(.int ((((vo + (1 : Int32)) + (1 : Int32)) + (1 : Int32)) + (1 : Int32)))]))
      refine OGo.on (fun t k => XS.iload Xh90.here hx rfl (hb hby at_113) rfl k) ?_
      show OGo p e below s _ _ _ (T88.setTop (mkF m 115 #[.val (.int va), .val (.int vb), .val (.int vs_), .val (.int vc), .val (.int vo), .val (.int vf), .val (.ref b53), .val (.int ((((vo + (1 : Int32)) + (1 : Int32)) + (1 : Int32)) + (1 : Int32))), .val (.int (4 : Int32)), .unset, .unset, .unset, .unset] [(.int vo), (.int ((((vo + (1 : Int32)) + (1 : Int32)) + (1 : Int32)) + (1 : Int32)))]))
      refine OGo.on (fun t k => XS.iload Xh90.here hx rfl (hb hby at_115) rfl k) ?_
      show OGo p e below s _ _ _ (T88.setTop (mkF m 117 #[.val (.int va), .val (.int vb), .val (.int vs_), .val (.int vc), .val (.int vo), .val (.int vf), .val (.ref b53), .val (.int ((((vo + (1 : Int32)) + (1 : Int32)) + (1 : Int32)) + (1 : Int32))), .val (.int (4 : Int32)), .unset, .unset, .unset, .unset] [(.int (4 : Int32)), (.int vo), (.int ((((vo + (1 : Int32)) + (1 : Int32)) + (1 : Int32)) + (1 : Int32)))]))
      refine OGo.on (fun t k => XS.iadd Xh90.here hx rfl (hb hby at_117) rfl k) ?_
      show OGo p e below s _ _ _ (T88.setTop (mkF m 118 #[.val (.int va), .val (.int vb), .val (.int vs_), .val (.int vc), .val (.int vo), .val (.int vf), .val (.ref b53), .val (.int ((((vo + (1 : Int32)) + (1 : Int32)) + (1 : Int32)) + (1 : Int32))), .val (.int (4 : Int32)), .unset, .unset, .unset, .unset] [(.int (vo + (4 : Int32))), (.int ((((vo + (1 : Int32)) + (1 : Int32)) + (1 : Int32)) + (1 : Int32)))]))
      refine OGo.on (fun t k => XS.icmpYes Xh90.here hx rfl (pc0 := 118) (pc' := 123) rfl (hb hby at_118) rfl (teq (own_x (P := fun o => ((((o + (1 : Int32)) + (1 : Int32)) + (1 : Int32)) + (1 : Int32)) = (o + (4 : Int32))) ho (by decide))).1 (by decide) (by decide) k) ?_
      show OGo p e below s _ _ _ (T88.setTop (mkF m 123 #[.val (.int va), .val (.int vb), .val (.int vs_), .val (.int vc), .val (.int vo), .val (.int vf), .val (.ref b53), .val (.int ((((vo + (1 : Int32)) + (1 : Int32)) + (1 : Int32)) + (1 : Int32))), .val (.int (4 : Int32)), .unset, .unset, .unset, .unset] []))
      refine OGo.on (fun t k => XS.aload Xh90.here hx rfl (hb hby at_123) rfl rfl k) ?_
      show OGo p e below s _ _ _ (T88.setTop (mkF m 125 #[.val (.int va), .val (.int vb), .val (.int vs_), .val (.int vc), .val (.int vo), .val (.int vf), .val (.ref b53), .val (.int ((((vo + (1 : Int32)) + (1 : Int32)) + (1 : Int32)) + (1 : Int32))), .val (.int (4 : Int32)), .unset, .unset, .unset, .unset] [(.ref b53)]))
      refine OGo.on (fun t k => XS.iconst Xh90.here hx rfl (hb hby at_125) k) ?_
      show OGo p e below s _ _ _ (T88.setTop (mkF m 126 #[.val (.int va), .val (.int vb), .val (.int vs_), .val (.int vc), .val (.int vo), .val (.int vf), .val (.ref b53), .val (.int ((((vo + (1 : Int32)) + (1 : Int32)) + (1 : Int32)) + (1 : Int32))), .val (.int (4 : Int32)), .unset, .unset, .unset, .unset] [(.int (0 : Int32)), (.ref b53)]))
      refine OGo.on (fun t k => XS.iload Xh90.here hx rfl (hb hby at_126) rfl k) ?_
      show OGo p e below s _ _ _ (T88.setTop (mkF m 128 #[.val (.int va), .val (.int vb), .val (.int vs_), .val (.int vc), .val (.int vo), .val (.int vf), .val (.ref b53), .val (.int ((((vo + (1 : Int32)) + (1 : Int32)) + (1 : Int32)) + (1 : Int32))), .val (.int (4 : Int32)), .unset, .unset, .unset, .unset] [(.int vo), (.int (0 : Int32)), (.ref b53)]))
      refine OGo.on (fun t k => XS.iload Xh90.here hx rfl (hb hby at_128) rfl k) ?_
      show OGo p e below s _ _ _ (T88.setTop (mkF m 130 #[.val (.int va), .val (.int vb), .val (.int vs_), .val (.int vc), .val (.int vo), .val (.int vf), .val (.ref b53), .val (.int ((((vo + (1 : Int32)) + (1 : Int32)) + (1 : Int32)) + (1 : Int32))), .val (.int (4 : Int32)), .unset, .unset, .unset, .unset] [(.int ((((vo + (1 : Int32)) + (1 : Int32)) + (1 : Int32)) + (1 : Int32))), (.int vo), (.int (0 : Int32)), (.ref b53)]))
      refine OGo.on (fun t k => XS.iload Xh90.here hx rfl (hb hby at_130) rfl k) ?_
      show OGo p e below s _ _ _ (T88.setTop (mkF m 132 #[.val (.int va), .val (.int vb), .val (.int vs_), .val (.int vc), .val (.int vo), .val (.int vf), .val (.ref b53), .val (.int ((((vo + (1 : Int32)) + (1 : Int32)) + (1 : Int32)) + (1 : Int32))), .val (.int (4 : Int32)), .unset, .unset, .unset, .unset] [(.int vf), (.int ((((vo + (1 : Int32)) + (1 : Int32)) + (1 : Int32)) + (1 : Int32))), (.int vo), (.int (0 : Int32)), (.ref b53)]))
      obtain ⟨w134, hq134, hk134⟩ := own_kp4 ho vf _ _ _ _ 0 (by decide)
      obtain ⟨_, _, ⟨T134, L134, k134, n134⟩, -, X134, ⟨Lc134, hQ134, l134, y134, z134⟩, st134⟩ := Jvm.LawKit.callS Xh90 hx (y := (⟨"com/example/libmsgframe/libmsgframe/Utf8PutBeyondAsciiPinLaw", "kept", "([BIIIB)Z"⟩ : MethodName)) hown (mvT hZ (hw _ (List.mem_of_getElem? (i := 7) rfl))) (mvT hZ (hw _ (List.mem_of_getElem? (i := 8) rfl))) (mvT hZ (hw _ (List.mem_of_getElem? (i := 9) rfl))) (mvT hZ (hw _ (List.mem_of_getElem? (i := 10) rfl))) (by decide) (backOf (W := 0) (own_mkept l Z a0 hw [] b53 (0 : Int32) vo ((((vo + (1 : Int32)) + (1 : Int32)) + (1 : Int32)) + (1 : Int32)) vf w134 _ T88.heap n0 Z89 V133 hq134) hZ (hw _ (List.mem_of_getElem? (i := 10) rfl)) (hw _ (List.mem_of_getElem? (i := 9) rfl)) (by decide) (by decide)) (g := (mkF m 132 #[.val (.int va), .val (.int vb), .val (.int vs_), .val (.int vc), .val (.int vo), .val (.int vf), .val (.ref b53), .val (.int ((((vo + (1 : Int32)) + (1 : Int32)) + (1 : Int32)) + (1 : Int32))), .val (.int (4 : Int32)), .unset, .unset, .unset, .unset] [(.int vf), (.int ((((vo + (1 : Int32)) + (1 : Int32)) + (1 : Int32)) + (1 : Int32))), (.int vo), (.int (0 : Int32)), (.ref b53)])) rfl (by rw [hml]; rfl) (argsL := [(.ref b53), (.int (0 : Int32)), (.int vo), (.int ((((vo + (1 : Int32)) + (1 : Int32)) + (1 : Int32)) + (1 : Int32))), (.int vf)]) (rest := []) (lenOf own_pd1 rfl) rfl (by show 2 * 0 + _ ≤ _; exact Nat.le_of_eq rfl) (hb hby at_132) (fun _ _ => ⟨rfl, eh88, (by decide : 1 + 0 ≤ _), (by decide : 8 + 0 ≤ _)⟩)
      dsimp only [Pt.U, Pt.locs, Pt.cells, Pt.slots] at X134 l134 y134 z134 st134 hQ134
      subst l134 y134 z134
      obtain ⟨rfl, N134q, e134⟩ := hQ134
      have N134 := Fr.app Nh90 N134q
      obtain ⟨Lh135, Xh135, Nh135⟩ := own_hide X134 N134
      refine OGo.on st134 ?_
      show OGo p e below s _ _ _ (T134.setTop (mkF m 135 #[.val (.int va), .val (.int vb), .val (.int vs_), .val (.int vc), .val (.int vo), .val (.int vf), .val (.ref b53), .val (.int ((((vo + (1 : Int32)) + (1 : Int32)) + (1 : Int32)) + (1 : Int32))), .val (.int (4 : Int32)), .unset, .unset, .unset, .unset] [(.int (own_kept w134 (0 : Int32) vo ((((vo + (1 : Int32)) + (1 : Int32)) + (1 : Int32)) + (1 : Int32)) vf))]))
      refine OGo.on (fun t k => XS.ifNo Xh135.here hx rfl (hb hby at_135) rfl ((if0 _ _).trans (feq (own_n0 hk134)).1) k) ?_
      show OGo p e below s _ _ _ (T134.setTop (mkF m 138 #[.val (.int va), .val (.int vb), .val (.int vs_), .val (.int vc), .val (.int vo), .val (.int vf), .val (.ref b53), .val (.int ((((vo + (1 : Int32)) + (1 : Int32)) + (1 : Int32)) + (1 : Int32))), .val (.int (4 : Int32)), .unset, .unset, .unset, .unset] []))
      refine OGo.on (fun t k => XS.aload Xh135.here hx rfl (hb hby at_138) rfl rfl k) ?_
      show OGo p e below s _ _ _ (T134.setTop (mkF m 140 #[.val (.int va), .val (.int vb), .val (.int vs_), .val (.int vc), .val (.int vo), .val (.int vf), .val (.ref b53), .val (.int ((((vo + (1 : Int32)) + (1 : Int32)) + (1 : Int32)) + (1 : Int32))), .val (.int (4 : Int32)), .unset, .unset, .unset, .unset] [(.ref b53)]))
      refine OGo.on (fun t k => XS.iconst Xh135.here hx rfl (hb hby at_140) k) ?_
      show OGo p e below s _ _ _ (T134.setTop (mkF m 141 #[.val (.int va), .val (.int vb), .val (.int vs_), .val (.int vc), .val (.int vo), .val (.int vf), .val (.ref b53), .val (.int ((((vo + (1 : Int32)) + (1 : Int32)) + (1 : Int32)) + (1 : Int32))), .val (.int (4 : Int32)), .unset, .unset, .unset, .unset] [(.int (1 : Int32)), (.ref b53)]))
      refine OGo.on (fun t k => XS.iload Xh135.here hx rfl (hb hby at_141) rfl k) ?_
      show OGo p e below s _ _ _ (T134.setTop (mkF m 143 #[.val (.int va), .val (.int vb), .val (.int vs_), .val (.int vc), .val (.int vo), .val (.int vf), .val (.ref b53), .val (.int ((((vo + (1 : Int32)) + (1 : Int32)) + (1 : Int32)) + (1 : Int32))), .val (.int (4 : Int32)), .unset, .unset, .unset, .unset] [(.int vo), (.int (1 : Int32)), (.ref b53)]))
      refine OGo.on (fun t k => XS.iload Xh135.here hx rfl (hb hby at_143) rfl k) ?_
      show OGo p e below s _ _ _ (T134.setTop (mkF m 145 #[.val (.int va), .val (.int vb), .val (.int vs_), .val (.int vc), .val (.int vo), .val (.int vf), .val (.ref b53), .val (.int ((((vo + (1 : Int32)) + (1 : Int32)) + (1 : Int32)) + (1 : Int32))), .val (.int (4 : Int32)), .unset, .unset, .unset, .unset] [(.int ((((vo + (1 : Int32)) + (1 : Int32)) + (1 : Int32)) + (1 : Int32))), (.int vo), (.int (1 : Int32)), (.ref b53)]))
      refine OGo.on (fun t k => XS.iload Xh135.here hx rfl (hb hby at_145) rfl k) ?_
      show OGo p e below s _ _ _ (T134.setTop (mkF m 147 #[.val (.int va), .val (.int vb), .val (.int vs_), .val (.int vc), .val (.int vo), .val (.int vf), .val (.ref b53), .val (.int ((((vo + (1 : Int32)) + (1 : Int32)) + (1 : Int32)) + (1 : Int32))), .val (.int (4 : Int32)), .unset, .unset, .unset, .unset] [(.int vf), (.int ((((vo + (1 : Int32)) + (1 : Int32)) + (1 : Int32)) + (1 : Int32))), (.int vo), (.int (1 : Int32)), (.ref b53)]))
      obtain ⟨w136, hq136, hk136⟩ := own_kp4 ho vf _ _ _ _ 1 (by decide)
      obtain ⟨_, _, ⟨T136, L136, k136, n136⟩, -, X136, ⟨Lc136, hQ136, l136, y136, z136⟩, st136⟩ := Jvm.LawKit.callS Xh135 hx (y := (⟨"com/example/libmsgframe/libmsgframe/Utf8PutBeyondAsciiPinLaw", "kept", "([BIIIB)Z"⟩ : MethodName)) hown (mvT hZ (hw _ (List.mem_of_getElem? (i := 7) rfl))) (mvT hZ (hw _ (List.mem_of_getElem? (i := 8) rfl))) (mvT hZ (hw _ (List.mem_of_getElem? (i := 9) rfl))) (mvT hZ (hw _ (List.mem_of_getElem? (i := 10) rfl))) (by decide) (backOf (W := 0) (own_mkept l Z a0 hw [] b53 (1 : Int32) vo ((((vo + (1 : Int32)) + (1 : Int32)) + (1 : Int32)) + (1 : Int32)) vf w136 _ T88.heap n0 Z89 V133 hq136) hZ (hw _ (List.mem_of_getElem? (i := 10) rfl)) (hw _ (List.mem_of_getElem? (i := 9) rfl)) (by decide) (by decide)) (g := (mkF m 147 #[.val (.int va), .val (.int vb), .val (.int vs_), .val (.int vc), .val (.int vo), .val (.int vf), .val (.ref b53), .val (.int ((((vo + (1 : Int32)) + (1 : Int32)) + (1 : Int32)) + (1 : Int32))), .val (.int (4 : Int32)), .unset, .unset, .unset, .unset] [(.int vf), (.int ((((vo + (1 : Int32)) + (1 : Int32)) + (1 : Int32)) + (1 : Int32))), (.int vo), (.int (1 : Int32)), (.ref b53)])) rfl (by rw [hml]; rfl) (argsL := [(.ref b53), (.int (1 : Int32)), (.int vo), (.int ((((vo + (1 : Int32)) + (1 : Int32)) + (1 : Int32)) + (1 : Int32))), (.int vf)]) (rest := []) (lenOf own_pd1 rfl) rfl (by show 2 * 0 + _ ≤ _; exact Nat.le_of_eq rfl) (hb hby at_147) (fun _ _ => ⟨rfl, e134, (by decide : 1 + 0 ≤ _), (by decide : 8 + 0 ≤ _)⟩)
      dsimp only [Pt.U, Pt.locs, Pt.cells, Pt.slots] at X136 l136 y136 z136 st136 hQ136
      subst l136 y136 z136
      obtain ⟨rfl, N136q, e136⟩ := hQ136
      have N136 := Fr.app Nh135 N136q
      obtain ⟨Lh137, Xh137, Nh137⟩ := own_hide X136 N136
      refine OGo.on st136 ?_
      show OGo p e below s _ _ _ (T136.setTop (mkF m 150 #[.val (.int va), .val (.int vb), .val (.int vs_), .val (.int vc), .val (.int vo), .val (.int vf), .val (.ref b53), .val (.int ((((vo + (1 : Int32)) + (1 : Int32)) + (1 : Int32)) + (1 : Int32))), .val (.int (4 : Int32)), .unset, .unset, .unset, .unset] [(.int (own_kept w136 (1 : Int32) vo ((((vo + (1 : Int32)) + (1 : Int32)) + (1 : Int32)) + (1 : Int32)) vf))]))
      refine OGo.on (fun t k => XS.ifNo Xh137.here hx rfl (hb hby at_150) rfl ((if0 _ _).trans (feq (own_n0 hk136)).1) k) ?_
      show OGo p e below s _ _ _ (T136.setTop (mkF m 153 #[.val (.int va), .val (.int vb), .val (.int vs_), .val (.int vc), .val (.int vo), .val (.int vf), .val (.ref b53), .val (.int ((((vo + (1 : Int32)) + (1 : Int32)) + (1 : Int32)) + (1 : Int32))), .val (.int (4 : Int32)), .unset, .unset, .unset, .unset] []))
      refine OGo.on (fun t k => XS.aload Xh137.here hx rfl (hb hby at_153) rfl rfl k) ?_
      show OGo p e below s _ _ _ (T136.setTop (mkF m 155 #[.val (.int va), .val (.int vb), .val (.int vs_), .val (.int vc), .val (.int vo), .val (.int vf), .val (.ref b53), .val (.int ((((vo + (1 : Int32)) + (1 : Int32)) + (1 : Int32)) + (1 : Int32))), .val (.int (4 : Int32)), .unset, .unset, .unset, .unset] [(.ref b53)]))
      refine OGo.on (fun t k => XS.iconst Xh137.here hx rfl (hb hby at_155) k) ?_
      show OGo p e below s _ _ _ (T136.setTop (mkF m 156 #[.val (.int va), .val (.int vb), .val (.int vs_), .val (.int vc), .val (.int vo), .val (.int vf), .val (.ref b53), .val (.int ((((vo + (1 : Int32)) + (1 : Int32)) + (1 : Int32)) + (1 : Int32))), .val (.int (4 : Int32)), .unset, .unset, .unset, .unset] [(.int (2 : Int32)), (.ref b53)]))
      refine OGo.on (fun t k => XS.iload Xh137.here hx rfl (hb hby at_156) rfl k) ?_
      show OGo p e below s _ _ _ (T136.setTop (mkF m 158 #[.val (.int va), .val (.int vb), .val (.int vs_), .val (.int vc), .val (.int vo), .val (.int vf), .val (.ref b53), .val (.int ((((vo + (1 : Int32)) + (1 : Int32)) + (1 : Int32)) + (1 : Int32))), .val (.int (4 : Int32)), .unset, .unset, .unset, .unset] [(.int vo), (.int (2 : Int32)), (.ref b53)]))
      refine OGo.on (fun t k => XS.iload Xh137.here hx rfl (hb hby at_158) rfl k) ?_
      show OGo p e below s _ _ _ (T136.setTop (mkF m 160 #[.val (.int va), .val (.int vb), .val (.int vs_), .val (.int vc), .val (.int vo), .val (.int vf), .val (.ref b53), .val (.int ((((vo + (1 : Int32)) + (1 : Int32)) + (1 : Int32)) + (1 : Int32))), .val (.int (4 : Int32)), .unset, .unset, .unset, .unset] [(.int ((((vo + (1 : Int32)) + (1 : Int32)) + (1 : Int32)) + (1 : Int32))), (.int vo), (.int (2 : Int32)), (.ref b53)]))
      refine OGo.on (fun t k => XS.iload Xh137.here hx rfl (hb hby at_160) rfl k) ?_
      show OGo p e below s _ _ _ (T136.setTop (mkF m 162 #[.val (.int va), .val (.int vb), .val (.int vs_), .val (.int vc), .val (.int vo), .val (.int vf), .val (.ref b53), .val (.int ((((vo + (1 : Int32)) + (1 : Int32)) + (1 : Int32)) + (1 : Int32))), .val (.int (4 : Int32)), .unset, .unset, .unset, .unset] [(.int vf), (.int ((((vo + (1 : Int32)) + (1 : Int32)) + (1 : Int32)) + (1 : Int32))), (.int vo), (.int (2 : Int32)), (.ref b53)]))
      obtain ⟨w138, hq138, hk138⟩ := own_kp4 ho vf _ _ _ _ 2 (by decide)
      obtain ⟨_, _, ⟨T138, L138, k138, n138⟩, -, X138, ⟨Lc138, hQ138, l138, y138, z138⟩, st138⟩ := Jvm.LawKit.callS Xh137 hx (y := (⟨"com/example/libmsgframe/libmsgframe/Utf8PutBeyondAsciiPinLaw", "kept", "([BIIIB)Z"⟩ : MethodName)) hown (mvT hZ (hw _ (List.mem_of_getElem? (i := 7) rfl))) (mvT hZ (hw _ (List.mem_of_getElem? (i := 8) rfl))) (mvT hZ (hw _ (List.mem_of_getElem? (i := 9) rfl))) (mvT hZ (hw _ (List.mem_of_getElem? (i := 10) rfl))) (by decide) (backOf (W := 0) (own_mkept l Z a0 hw [] b53 (2 : Int32) vo ((((vo + (1 : Int32)) + (1 : Int32)) + (1 : Int32)) + (1 : Int32)) vf w138 _ T88.heap n0 Z89 V133 hq138) hZ (hw _ (List.mem_of_getElem? (i := 10) rfl)) (hw _ (List.mem_of_getElem? (i := 9) rfl)) (by decide) (by decide)) (g := (mkF m 162 #[.val (.int va), .val (.int vb), .val (.int vs_), .val (.int vc), .val (.int vo), .val (.int vf), .val (.ref b53), .val (.int ((((vo + (1 : Int32)) + (1 : Int32)) + (1 : Int32)) + (1 : Int32))), .val (.int (4 : Int32)), .unset, .unset, .unset, .unset] [(.int vf), (.int ((((vo + (1 : Int32)) + (1 : Int32)) + (1 : Int32)) + (1 : Int32))), (.int vo), (.int (2 : Int32)), (.ref b53)])) rfl (by rw [hml]; rfl) (argsL := [(.ref b53), (.int (2 : Int32)), (.int vo), (.int ((((vo + (1 : Int32)) + (1 : Int32)) + (1 : Int32)) + (1 : Int32))), (.int vf)]) (rest := []) (lenOf own_pd1 rfl) rfl (by show 2 * 0 + _ ≤ _; exact Nat.le_of_eq rfl) (hb hby at_162) (fun _ _ => ⟨rfl, e136, (by decide : 1 + 0 ≤ _), (by decide : 8 + 0 ≤ _)⟩)
      dsimp only [Pt.U, Pt.locs, Pt.cells, Pt.slots] at X138 l138 y138 z138 st138 hQ138
      subst l138 y138 z138
      obtain ⟨rfl, N138q, e138⟩ := hQ138
      have N138 := Fr.app Nh137 N138q
      obtain ⟨Lh139, Xh139, Nh139⟩ := own_hide X138 N138
      refine OGo.on st138 ?_
      show OGo p e below s _ _ _ (T138.setTop (mkF m 165 #[.val (.int va), .val (.int vb), .val (.int vs_), .val (.int vc), .val (.int vo), .val (.int vf), .val (.ref b53), .val (.int ((((vo + (1 : Int32)) + (1 : Int32)) + (1 : Int32)) + (1 : Int32))), .val (.int (4 : Int32)), .unset, .unset, .unset, .unset] [(.int (own_kept w138 (2 : Int32) vo ((((vo + (1 : Int32)) + (1 : Int32)) + (1 : Int32)) + (1 : Int32)) vf))]))
      refine OGo.on (fun t k => XS.ifNo Xh139.here hx rfl (hb hby at_165) rfl ((if0 _ _).trans (feq (own_n0 hk138)).1) k) ?_
      show OGo p e below s _ _ _ (T138.setTop (mkF m 168 #[.val (.int va), .val (.int vb), .val (.int vs_), .val (.int vc), .val (.int vo), .val (.int vf), .val (.ref b53), .val (.int ((((vo + (1 : Int32)) + (1 : Int32)) + (1 : Int32)) + (1 : Int32))), .val (.int (4 : Int32)), .unset, .unset, .unset, .unset] []))
      refine OGo.on (fun t k => XS.aload Xh139.here hx rfl (hb hby at_168) rfl rfl k) ?_
      show OGo p e below s _ _ _ (T138.setTop (mkF m 170 #[.val (.int va), .val (.int vb), .val (.int vs_), .val (.int vc), .val (.int vo), .val (.int vf), .val (.ref b53), .val (.int ((((vo + (1 : Int32)) + (1 : Int32)) + (1 : Int32)) + (1 : Int32))), .val (.int (4 : Int32)), .unset, .unset, .unset, .unset] [(.ref b53)]))
      refine OGo.on (fun t k => XS.iconst Xh139.here hx rfl (hb hby at_170) k) ?_
      show OGo p e below s _ _ _ (T138.setTop (mkF m 171 #[.val (.int va), .val (.int vb), .val (.int vs_), .val (.int vc), .val (.int vo), .val (.int vf), .val (.ref b53), .val (.int ((((vo + (1 : Int32)) + (1 : Int32)) + (1 : Int32)) + (1 : Int32))), .val (.int (4 : Int32)), .unset, .unset, .unset, .unset] [(.int (3 : Int32)), (.ref b53)]))
      refine OGo.on (fun t k => XS.iload Xh139.here hx rfl (hb hby at_171) rfl k) ?_
      show OGo p e below s _ _ _ (T138.setTop (mkF m 173 #[.val (.int va), .val (.int vb), .val (.int vs_), .val (.int vc), .val (.int vo), .val (.int vf), .val (.ref b53), .val (.int ((((vo + (1 : Int32)) + (1 : Int32)) + (1 : Int32)) + (1 : Int32))), .val (.int (4 : Int32)), .unset, .unset, .unset, .unset] [(.int vo), (.int (3 : Int32)), (.ref b53)]))
      refine OGo.on (fun t k => XS.iload Xh139.here hx rfl (hb hby at_173) rfl k) ?_
      show OGo p e below s _ _ _ (T138.setTop (mkF m 175 #[.val (.int va), .val (.int vb), .val (.int vs_), .val (.int vc), .val (.int vo), .val (.int vf), .val (.ref b53), .val (.int ((((vo + (1 : Int32)) + (1 : Int32)) + (1 : Int32)) + (1 : Int32))), .val (.int (4 : Int32)), .unset, .unset, .unset, .unset] [(.int ((((vo + (1 : Int32)) + (1 : Int32)) + (1 : Int32)) + (1 : Int32))), (.int vo), (.int (3 : Int32)), (.ref b53)]))
      refine OGo.on (fun t k => XS.iload Xh139.here hx rfl (hb hby at_175) rfl k) ?_
      show OGo p e below s _ _ _ (T138.setTop (mkF m 177 #[.val (.int va), .val (.int vb), .val (.int vs_), .val (.int vc), .val (.int vo), .val (.int vf), .val (.ref b53), .val (.int ((((vo + (1 : Int32)) + (1 : Int32)) + (1 : Int32)) + (1 : Int32))), .val (.int (4 : Int32)), .unset, .unset, .unset, .unset] [(.int vf), (.int ((((vo + (1 : Int32)) + (1 : Int32)) + (1 : Int32)) + (1 : Int32))), (.int vo), (.int (3 : Int32)), (.ref b53)]))
      obtain ⟨w140, hq140, hk140⟩ := own_kp4 ho vf _ _ _ _ 3 (by decide)
      obtain ⟨_, _, ⟨T140, L140, k140, n140⟩, -, X140, ⟨Lc140, hQ140, l140, y140, z140⟩, st140⟩ := Jvm.LawKit.callS Xh139 hx (y := (⟨"com/example/libmsgframe/libmsgframe/Utf8PutBeyondAsciiPinLaw", "kept", "([BIIIB)Z"⟩ : MethodName)) hown (mvT hZ (hw _ (List.mem_of_getElem? (i := 7) rfl))) (mvT hZ (hw _ (List.mem_of_getElem? (i := 8) rfl))) (mvT hZ (hw _ (List.mem_of_getElem? (i := 9) rfl))) (mvT hZ (hw _ (List.mem_of_getElem? (i := 10) rfl))) (by decide) (backOf (W := 0) (own_mkept l Z a0 hw [] b53 (3 : Int32) vo ((((vo + (1 : Int32)) + (1 : Int32)) + (1 : Int32)) + (1 : Int32)) vf w140 _ T88.heap n0 Z89 V133 hq140) hZ (hw _ (List.mem_of_getElem? (i := 10) rfl)) (hw _ (List.mem_of_getElem? (i := 9) rfl)) (by decide) (by decide)) (g := (mkF m 177 #[.val (.int va), .val (.int vb), .val (.int vs_), .val (.int vc), .val (.int vo), .val (.int vf), .val (.ref b53), .val (.int ((((vo + (1 : Int32)) + (1 : Int32)) + (1 : Int32)) + (1 : Int32))), .val (.int (4 : Int32)), .unset, .unset, .unset, .unset] [(.int vf), (.int ((((vo + (1 : Int32)) + (1 : Int32)) + (1 : Int32)) + (1 : Int32))), (.int vo), (.int (3 : Int32)), (.ref b53)])) rfl (by rw [hml]; rfl) (argsL := [(.ref b53), (.int (3 : Int32)), (.int vo), (.int ((((vo + (1 : Int32)) + (1 : Int32)) + (1 : Int32)) + (1 : Int32))), (.int vf)]) (rest := []) (lenOf own_pd1 rfl) rfl (by show 2 * 0 + _ ≤ _; exact Nat.le_of_eq rfl) (hb hby at_177) (fun _ _ => ⟨rfl, e138, (by decide : 1 + 0 ≤ _), (by decide : 8 + 0 ≤ _)⟩)
      dsimp only [Pt.U, Pt.locs, Pt.cells, Pt.slots] at X140 l140 y140 z140 st140 hQ140
      subst l140 y140 z140
      obtain ⟨rfl, N140q, e140⟩ := hQ140
      have N140 := Fr.app Nh139 N140q
      obtain ⟨Lh141, Xh141, Nh141⟩ := own_hide X140 N140
      refine OGo.on st140 ?_
      show OGo p e below s _ _ _ (T140.setTop (mkF m 180 #[.val (.int va), .val (.int vb), .val (.int vs_), .val (.int vc), .val (.int vo), .val (.int vf), .val (.ref b53), .val (.int ((((vo + (1 : Int32)) + (1 : Int32)) + (1 : Int32)) + (1 : Int32))), .val (.int (4 : Int32)), .unset, .unset, .unset, .unset] [(.int (own_kept w140 (3 : Int32) vo ((((vo + (1 : Int32)) + (1 : Int32)) + (1 : Int32)) + (1 : Int32)) vf))]))
      refine OGo.on (fun t k => XS.ifNo Xh141.here hx rfl (hb hby at_180) rfl ((if0 _ _).trans (feq (own_n0 hk140)).1) k) ?_
      show OGo p e below s _ _ _ (T140.setTop (mkF m 183 #[.val (.int va), .val (.int vb), .val (.int vs_), .val (.int vc), .val (.int vo), .val (.int vf), .val (.ref b53), .val (.int ((((vo + (1 : Int32)) + (1 : Int32)) + (1 : Int32)) + (1 : Int32))), .val (.int (4 : Int32)), .unset, .unset, .unset, .unset] []))
      refine OGo.on (fun t k => XS.aload Xh141.here hx rfl (hb hby at_183) rfl rfl k) ?_
      show OGo p e below s _ _ _ (T140.setTop (mkF m 185 #[.val (.int va), .val (.int vb), .val (.int vs_), .val (.int vc), .val (.int vo), .val (.int vf), .val (.ref b53), .val (.int ((((vo + (1 : Int32)) + (1 : Int32)) + (1 : Int32)) + (1 : Int32))), .val (.int (4 : Int32)), .unset, .unset, .unset, .unset] [(.ref b53)]))
      refine OGo.on (fun t k => XS.iconst Xh141.here hx rfl (hb hby at_185) k) ?_
      show OGo p e below s _ _ _ (T140.setTop (mkF m 186 #[.val (.int va), .val (.int vb), .val (.int vs_), .val (.int vc), .val (.int vo), .val (.int vf), .val (.ref b53), .val (.int ((((vo + (1 : Int32)) + (1 : Int32)) + (1 : Int32)) + (1 : Int32))), .val (.int (4 : Int32)), .unset, .unset, .unset, .unset] [(.int (4 : Int32)), (.ref b53)]))
      refine OGo.on (fun t k => XS.iload Xh141.here hx rfl (hb hby at_186) rfl k) ?_
      show OGo p e below s _ _ _ (T140.setTop (mkF m 188 #[.val (.int va), .val (.int vb), .val (.int vs_), .val (.int vc), .val (.int vo), .val (.int vf), .val (.ref b53), .val (.int ((((vo + (1 : Int32)) + (1 : Int32)) + (1 : Int32)) + (1 : Int32))), .val (.int (4 : Int32)), .unset, .unset, .unset, .unset] [(.int vo), (.int (4 : Int32)), (.ref b53)]))
      refine OGo.on (fun t k => XS.iload Xh141.here hx rfl (hb hby at_188) rfl k) ?_
      show OGo p e below s _ _ _ (T140.setTop (mkF m 190 #[.val (.int va), .val (.int vb), .val (.int vs_), .val (.int vc), .val (.int vo), .val (.int vf), .val (.ref b53), .val (.int ((((vo + (1 : Int32)) + (1 : Int32)) + (1 : Int32)) + (1 : Int32))), .val (.int (4 : Int32)), .unset, .unset, .unset, .unset] [(.int ((((vo + (1 : Int32)) + (1 : Int32)) + (1 : Int32)) + (1 : Int32))), (.int vo), (.int (4 : Int32)), (.ref b53)]))
      refine OGo.on (fun t k => XS.iload Xh141.here hx rfl (hb hby at_190) rfl k) ?_
      show OGo p e below s _ _ _ (T140.setTop (mkF m 192 #[.val (.int va), .val (.int vb), .val (.int vs_), .val (.int vc), .val (.int vo), .val (.int vf), .val (.ref b53), .val (.int ((((vo + (1 : Int32)) + (1 : Int32)) + (1 : Int32)) + (1 : Int32))), .val (.int (4 : Int32)), .unset, .unset, .unset, .unset] [(.int vf), (.int ((((vo + (1 : Int32)) + (1 : Int32)) + (1 : Int32)) + (1 : Int32))), (.int vo), (.int (4 : Int32)), (.ref b53)]))
      obtain ⟨w142, hq142, hk142⟩ := own_kp4 ho vf _ _ _ _ 4 (by decide)
      obtain ⟨_, _, ⟨T142, L142, k142, n142⟩, -, X142, ⟨Lc142, hQ142, l142, y142, z142⟩, st142⟩ := Jvm.LawKit.callS Xh141 hx (y := (⟨"com/example/libmsgframe/libmsgframe/Utf8PutBeyondAsciiPinLaw", "kept", "([BIIIB)Z"⟩ : MethodName)) hown (mvT hZ (hw _ (List.mem_of_getElem? (i := 7) rfl))) (mvT hZ (hw _ (List.mem_of_getElem? (i := 8) rfl))) (mvT hZ (hw _ (List.mem_of_getElem? (i := 9) rfl))) (mvT hZ (hw _ (List.mem_of_getElem? (i := 10) rfl))) (by decide) (backOf (W := 0) (own_mkept l Z a0 hw [] b53 (4 : Int32) vo ((((vo + (1 : Int32)) + (1 : Int32)) + (1 : Int32)) + (1 : Int32)) vf w142 _ T88.heap n0 Z89 V133 hq142) hZ (hw _ (List.mem_of_getElem? (i := 10) rfl)) (hw _ (List.mem_of_getElem? (i := 9) rfl)) (by decide) (by decide)) (g := (mkF m 192 #[.val (.int va), .val (.int vb), .val (.int vs_), .val (.int vc), .val (.int vo), .val (.int vf), .val (.ref b53), .val (.int ((((vo + (1 : Int32)) + (1 : Int32)) + (1 : Int32)) + (1 : Int32))), .val (.int (4 : Int32)), .unset, .unset, .unset, .unset] [(.int vf), (.int ((((vo + (1 : Int32)) + (1 : Int32)) + (1 : Int32)) + (1 : Int32))), (.int vo), (.int (4 : Int32)), (.ref b53)])) rfl (by rw [hml]; rfl) (argsL := [(.ref b53), (.int (4 : Int32)), (.int vo), (.int ((((vo + (1 : Int32)) + (1 : Int32)) + (1 : Int32)) + (1 : Int32))), (.int vf)]) (rest := []) (lenOf own_pd1 rfl) rfl (by show 2 * 0 + _ ≤ _; exact Nat.le_of_eq rfl) (hb hby at_192) (fun _ _ => ⟨rfl, e140, (by decide : 1 + 0 ≤ _), (by decide : 8 + 0 ≤ _)⟩)
      dsimp only [Pt.U, Pt.locs, Pt.cells, Pt.slots] at X142 l142 y142 z142 st142 hQ142
      subst l142 y142 z142
      obtain ⟨rfl, N142q, e142⟩ := hQ142
      have N142 := Fr.app Nh141 N142q
      obtain ⟨Lh143, Xh143, Nh143⟩ := own_hide X142 N142
      refine OGo.on st142 ?_
      show OGo p e below s _ _ _ (T142.setTop (mkF m 195 #[.val (.int va), .val (.int vb), .val (.int vs_), .val (.int vc), .val (.int vo), .val (.int vf), .val (.ref b53), .val (.int ((((vo + (1 : Int32)) + (1 : Int32)) + (1 : Int32)) + (1 : Int32))), .val (.int (4 : Int32)), .unset, .unset, .unset, .unset] [(.int (own_kept w142 (4 : Int32) vo ((((vo + (1 : Int32)) + (1 : Int32)) + (1 : Int32)) + (1 : Int32)) vf))]))
      refine OGo.on (fun t k => XS.ifNo Xh143.here hx rfl (hb hby at_195) rfl ((if0 _ _).trans (feq (own_n0 hk142)).1) k) ?_
      show OGo p e below s _ _ _ (T142.setTop (mkF m 198 #[.val (.int va), .val (.int vb), .val (.int vs_), .val (.int vc), .val (.int vo), .val (.int vf), .val (.ref b53), .val (.int ((((vo + (1 : Int32)) + (1 : Int32)) + (1 : Int32)) + (1 : Int32))), .val (.int (4 : Int32)), .unset, .unset, .unset, .unset] []))
      refine OGo.on (fun t k => XS.aload Xh143.here hx rfl (hb hby at_198) rfl rfl k) ?_
      show OGo p e below s _ _ _ (T142.setTop (mkF m 200 #[.val (.int va), .val (.int vb), .val (.int vs_), .val (.int vc), .val (.int vo), .val (.int vf), .val (.ref b53), .val (.int ((((vo + (1 : Int32)) + (1 : Int32)) + (1 : Int32)) + (1 : Int32))), .val (.int (4 : Int32)), .unset, .unset, .unset, .unset] [(.ref b53)]))
      refine OGo.on (fun t k => XS.iconst Xh143.here hx rfl (hb hby at_200) k) ?_
      show OGo p e below s _ _ _ (T142.setTop (mkF m 201 #[.val (.int va), .val (.int vb), .val (.int vs_), .val (.int vc), .val (.int vo), .val (.int vf), .val (.ref b53), .val (.int ((((vo + (1 : Int32)) + (1 : Int32)) + (1 : Int32)) + (1 : Int32))), .val (.int (4 : Int32)), .unset, .unset, .unset, .unset] [(.int (5 : Int32)), (.ref b53)]))
      refine OGo.on (fun t k => XS.iload Xh143.here hx rfl (hb hby at_201) rfl k) ?_
      show OGo p e below s _ _ _ (T142.setTop (mkF m 203 #[.val (.int va), .val (.int vb), .val (.int vs_), .val (.int vc), .val (.int vo), .val (.int vf), .val (.ref b53), .val (.int ((((vo + (1 : Int32)) + (1 : Int32)) + (1 : Int32)) + (1 : Int32))), .val (.int (4 : Int32)), .unset, .unset, .unset, .unset] [(.int vo), (.int (5 : Int32)), (.ref b53)]))
      refine OGo.on (fun t k => XS.iload Xh143.here hx rfl (hb hby at_203) rfl k) ?_
      show OGo p e below s _ _ _ (T142.setTop (mkF m 205 #[.val (.int va), .val (.int vb), .val (.int vs_), .val (.int vc), .val (.int vo), .val (.int vf), .val (.ref b53), .val (.int ((((vo + (1 : Int32)) + (1 : Int32)) + (1 : Int32)) + (1 : Int32))), .val (.int (4 : Int32)), .unset, .unset, .unset, .unset] [(.int ((((vo + (1 : Int32)) + (1 : Int32)) + (1 : Int32)) + (1 : Int32))), (.int vo), (.int (5 : Int32)), (.ref b53)]))
      refine OGo.on (fun t k => XS.iload Xh143.here hx rfl (hb hby at_205) rfl k) ?_
      show OGo p e below s _ _ _ (T142.setTop (mkF m 207 #[.val (.int va), .val (.int vb), .val (.int vs_), .val (.int vc), .val (.int vo), .val (.int vf), .val (.ref b53), .val (.int ((((vo + (1 : Int32)) + (1 : Int32)) + (1 : Int32)) + (1 : Int32))), .val (.int (4 : Int32)), .unset, .unset, .unset, .unset] [(.int vf), (.int ((((vo + (1 : Int32)) + (1 : Int32)) + (1 : Int32)) + (1 : Int32))), (.int vo), (.int (5 : Int32)), (.ref b53)]))
      obtain ⟨w144, hq144, hk144⟩ := own_kp4 ho vf _ _ _ _ 5 (by decide)
      obtain ⟨_, _, ⟨T144, L144, k144, n144⟩, -, X144, ⟨Lc144, hQ144, l144, y144, z144⟩, st144⟩ := Jvm.LawKit.callS Xh143 hx (y := (⟨"com/example/libmsgframe/libmsgframe/Utf8PutBeyondAsciiPinLaw", "kept", "([BIIIB)Z"⟩ : MethodName)) hown (mvT hZ (hw _ (List.mem_of_getElem? (i := 7) rfl))) (mvT hZ (hw _ (List.mem_of_getElem? (i := 8) rfl))) (mvT hZ (hw _ (List.mem_of_getElem? (i := 9) rfl))) (mvT hZ (hw _ (List.mem_of_getElem? (i := 10) rfl))) (by decide) (backOf (W := 0) (own_mkept l Z a0 hw [] b53 (5 : Int32) vo ((((vo + (1 : Int32)) + (1 : Int32)) + (1 : Int32)) + (1 : Int32)) vf w144 _ T88.heap n0 Z89 V133 hq144) hZ (hw _ (List.mem_of_getElem? (i := 10) rfl)) (hw _ (List.mem_of_getElem? (i := 9) rfl)) (by decide) (by decide)) (g := (mkF m 207 #[.val (.int va), .val (.int vb), .val (.int vs_), .val (.int vc), .val (.int vo), .val (.int vf), .val (.ref b53), .val (.int ((((vo + (1 : Int32)) + (1 : Int32)) + (1 : Int32)) + (1 : Int32))), .val (.int (4 : Int32)), .unset, .unset, .unset, .unset] [(.int vf), (.int ((((vo + (1 : Int32)) + (1 : Int32)) + (1 : Int32)) + (1 : Int32))), (.int vo), (.int (5 : Int32)), (.ref b53)])) rfl (by rw [hml]; rfl) (argsL := [(.ref b53), (.int (5 : Int32)), (.int vo), (.int ((((vo + (1 : Int32)) + (1 : Int32)) + (1 : Int32)) + (1 : Int32))), (.int vf)]) (rest := []) (lenOf own_pd1 rfl) rfl (by show 2 * 0 + _ ≤ _; exact Nat.le_of_eq rfl) (hb hby at_207) (fun _ _ => ⟨rfl, e142, (by decide : 1 + 0 ≤ _), (by decide : 8 + 0 ≤ _)⟩)
      dsimp only [Pt.U, Pt.locs, Pt.cells, Pt.slots] at X144 l144 y144 z144 st144 hQ144
      subst l144 y144 z144
      obtain ⟨rfl, N144q, e144⟩ := hQ144
      have N144 := Fr.app Nh143 N144q
      obtain ⟨Lh145, Xh145, Nh145⟩ := own_hide X144 N144
      refine OGo.on st144 ?_
      show OGo p e below s _ _ _ (T144.setTop (mkF m 210 #[.val (.int va), .val (.int vb), .val (.int vs_), .val (.int vc), .val (.int vo), .val (.int vf), .val (.ref b53), .val (.int ((((vo + (1 : Int32)) + (1 : Int32)) + (1 : Int32)) + (1 : Int32))), .val (.int (4 : Int32)), .unset, .unset, .unset, .unset] [(.int (own_kept w144 (5 : Int32) vo ((((vo + (1 : Int32)) + (1 : Int32)) + (1 : Int32)) + (1 : Int32)) vf))]))
      refine OGo.on (fun t k => XS.ifNo Xh145.here hx rfl (hb hby at_210) rfl ((if0 _ _).trans (feq (own_n0 hk144)).1) k) ?_
      show OGo p e below s _ _ _ (T144.setTop (mkF m 213 #[.val (.int va), .val (.int vb), .val (.int vs_), .val (.int vc), .val (.int vo), .val (.int vf), .val (.ref b53), .val (.int ((((vo + (1 : Int32)) + (1 : Int32)) + (1 : Int32)) + (1 : Int32))), .val (.int (4 : Int32)), .unset, .unset, .unset, .unset] []))
      refine OGo.on (fun t k => XS.aload Xh145.here hx rfl (hb hby at_213) rfl rfl k) ?_
      show OGo p e below s _ _ _ (T144.setTop (mkF m 215 #[.val (.int va), .val (.int vb), .val (.int vs_), .val (.int vc), .val (.int vo), .val (.int vf), .val (.ref b53), .val (.int ((((vo + (1 : Int32)) + (1 : Int32)) + (1 : Int32)) + (1 : Int32))), .val (.int (4 : Int32)), .unset, .unset, .unset, .unset] [(.ref b53)]))
      refine OGo.on (fun t k => XS.bipush Xh145.here hx rfl (hb hby at_215) k) ?_
      show OGo p e below s _ _ _ (T144.setTop (mkF m 217 #[.val (.int va), .val (.int vb), .val (.int vs_), .val (.int vc), .val (.int vo), .val (.int vf), .val (.ref b53), .val (.int ((((vo + (1 : Int32)) + (1 : Int32)) + (1 : Int32)) + (1 : Int32))), .val (.int (4 : Int32)), .unset, .unset, .unset, .unset] [(.int (6 : Int32)), (.ref b53)]))
      refine OGo.on (fun t k => XS.iload Xh145.here hx rfl (hb hby at_217) rfl k) ?_
      show OGo p e below s _ _ _ (T144.setTop (mkF m 219 #[.val (.int va), .val (.int vb), .val (.int vs_), .val (.int vc), .val (.int vo), .val (.int vf), .val (.ref b53), .val (.int ((((vo + (1 : Int32)) + (1 : Int32)) + (1 : Int32)) + (1 : Int32))), .val (.int (4 : Int32)), .unset, .unset, .unset, .unset] [(.int vo), (.int (6 : Int32)), (.ref b53)]))
      refine OGo.on (fun t k => XS.iload Xh145.here hx rfl (hb hby at_219) rfl k) ?_
      show OGo p e below s _ _ _ (T144.setTop (mkF m 221 #[.val (.int va), .val (.int vb), .val (.int vs_), .val (.int vc), .val (.int vo), .val (.int vf), .val (.ref b53), .val (.int ((((vo + (1 : Int32)) + (1 : Int32)) + (1 : Int32)) + (1 : Int32))), .val (.int (4 : Int32)), .unset, .unset, .unset, .unset] [(.int ((((vo + (1 : Int32)) + (1 : Int32)) + (1 : Int32)) + (1 : Int32))), (.int vo), (.int (6 : Int32)), (.ref b53)]))
      refine OGo.on (fun t k => XS.iload Xh145.here hx rfl (hb hby at_221) rfl k) ?_
      show OGo p e below s _ _ _ (T144.setTop (mkF m 223 #[.val (.int va), .val (.int vb), .val (.int vs_), .val (.int vc), .val (.int vo), .val (.int vf), .val (.ref b53), .val (.int ((((vo + (1 : Int32)) + (1 : Int32)) + (1 : Int32)) + (1 : Int32))), .val (.int (4 : Int32)), .unset, .unset, .unset, .unset] [(.int vf), (.int ((((vo + (1 : Int32)) + (1 : Int32)) + (1 : Int32)) + (1 : Int32))), (.int vo), (.int (6 : Int32)), (.ref b53)]))
      obtain ⟨w146, hq146, hk146⟩ := own_kp4 ho vf _ _ _ _ 6 (by decide)
      obtain ⟨_, _, ⟨T146, L146, k146, n146⟩, -, X146, ⟨Lc146, hQ146, l146, y146, z146⟩, st146⟩ := Jvm.LawKit.callS Xh145 hx (y := (⟨"com/example/libmsgframe/libmsgframe/Utf8PutBeyondAsciiPinLaw", "kept", "([BIIIB)Z"⟩ : MethodName)) hown (mvT hZ (hw _ (List.mem_of_getElem? (i := 7) rfl))) (mvT hZ (hw _ (List.mem_of_getElem? (i := 8) rfl))) (mvT hZ (hw _ (List.mem_of_getElem? (i := 9) rfl))) (mvT hZ (hw _ (List.mem_of_getElem? (i := 10) rfl))) (by decide) (backOf (W := 0) (own_mkept l Z a0 hw [] b53 (6 : Int32) vo ((((vo + (1 : Int32)) + (1 : Int32)) + (1 : Int32)) + (1 : Int32)) vf w146 _ T88.heap n0 Z89 V133 hq146) hZ (hw _ (List.mem_of_getElem? (i := 10) rfl)) (hw _ (List.mem_of_getElem? (i := 9) rfl)) (by decide) (by decide)) (g := (mkF m 223 #[.val (.int va), .val (.int vb), .val (.int vs_), .val (.int vc), .val (.int vo), .val (.int vf), .val (.ref b53), .val (.int ((((vo + (1 : Int32)) + (1 : Int32)) + (1 : Int32)) + (1 : Int32))), .val (.int (4 : Int32)), .unset, .unset, .unset, .unset] [(.int vf), (.int ((((vo + (1 : Int32)) + (1 : Int32)) + (1 : Int32)) + (1 : Int32))), (.int vo), (.int (6 : Int32)), (.ref b53)])) rfl (by rw [hml]; rfl) (argsL := [(.ref b53), (.int (6 : Int32)), (.int vo), (.int ((((vo + (1 : Int32)) + (1 : Int32)) + (1 : Int32)) + (1 : Int32))), (.int vf)]) (rest := []) (lenOf own_pd1 rfl) rfl (by show 2 * 0 + _ ≤ _; exact Nat.le_of_eq rfl) (hb hby at_223) (fun _ _ => ⟨rfl, e144, (by decide : 1 + 0 ≤ _), (by decide : 8 + 0 ≤ _)⟩)
      dsimp only [Pt.U, Pt.locs, Pt.cells, Pt.slots] at X146 l146 y146 z146 st146 hQ146
      subst l146 y146 z146
      obtain ⟨rfl, N146q, e146⟩ := hQ146
      have N146 := Fr.app Nh145 N146q
      obtain ⟨Lh147, Xh147, Nh147⟩ := own_hide X146 N146
      refine OGo.on st146 ?_
      show OGo p e below s _ _ _ (T146.setTop (mkF m 226 #[.val (.int va), .val (.int vb), .val (.int vs_), .val (.int vc), .val (.int vo), .val (.int vf), .val (.ref b53), .val (.int ((((vo + (1 : Int32)) + (1 : Int32)) + (1 : Int32)) + (1 : Int32))), .val (.int (4 : Int32)), .unset, .unset, .unset, .unset] [(.int (own_kept w146 (6 : Int32) vo ((((vo + (1 : Int32)) + (1 : Int32)) + (1 : Int32)) + (1 : Int32)) vf))]))
      refine OGo.on (fun t k => XS.ifNo Xh147.here hx rfl (hb hby at_226) rfl ((if0 _ _).trans (feq (own_n0 hk146)).1) k) ?_
      show OGo p e below s _ _ _ (T146.setTop (mkF m 229 #[.val (.int va), .val (.int vb), .val (.int vs_), .val (.int vc), .val (.int vo), .val (.int vf), .val (.ref b53), .val (.int ((((vo + (1 : Int32)) + (1 : Int32)) + (1 : Int32)) + (1 : Int32))), .val (.int (4 : Int32)), .unset, .unset, .unset, .unset] []))
      refine OGo.on (fun t k => XS.aload Xh147.here hx rfl (hb hby at_229) rfl rfl k) ?_
      show OGo p e below s _ _ _ (T146.setTop (mkF m 231 #[.val (.int va), .val (.int vb), .val (.int vs_), .val (.int vc), .val (.int vo), .val (.int vf), .val (.ref b53), .val (.int ((((vo + (1 : Int32)) + (1 : Int32)) + (1 : Int32)) + (1 : Int32))), .val (.int (4 : Int32)), .unset, .unset, .unset, .unset] [(.ref b53)]))
      refine OGo.on (fun t k => XS.bipush Xh147.here hx rfl (hb hby at_231) k) ?_
      show OGo p e below s _ _ _ (T146.setTop (mkF m 233 #[.val (.int va), .val (.int vb), .val (.int vs_), .val (.int vc), .val (.int vo), .val (.int vf), .val (.ref b53), .val (.int ((((vo + (1 : Int32)) + (1 : Int32)) + (1 : Int32)) + (1 : Int32))), .val (.int (4 : Int32)), .unset, .unset, .unset, .unset] [(.int (7 : Int32)), (.ref b53)]))
      refine OGo.on (fun t k => XS.iload Xh147.here hx rfl (hb hby at_233) rfl k) ?_
      show OGo p e below s _ _ _ (T146.setTop (mkF m 235 #[.val (.int va), .val (.int vb), .val (.int vs_), .val (.int vc), .val (.int vo), .val (.int vf), .val (.ref b53), .val (.int ((((vo + (1 : Int32)) + (1 : Int32)) + (1 : Int32)) + (1 : Int32))), .val (.int (4 : Int32)), .unset, .unset, .unset, .unset] [(.int vo), (.int (7 : Int32)), (.ref b53)]))
      refine OGo.on (fun t k => XS.iload Xh147.here hx rfl (hb hby at_235) rfl k) ?_
      show OGo p e below s _ _ _ (T146.setTop (mkF m 237 #[.val (.int va), .val (.int vb), .val (.int vs_), .val (.int vc), .val (.int vo), .val (.int vf), .val (.ref b53), .val (.int ((((vo + (1 : Int32)) + (1 : Int32)) + (1 : Int32)) + (1 : Int32))), .val (.int (4 : Int32)), .unset, .unset, .unset, .unset] [(.int ((((vo + (1 : Int32)) + (1 : Int32)) + (1 : Int32)) + (1 : Int32))), (.int vo), (.int (7 : Int32)), (.ref b53)]))
      refine OGo.on (fun t k => XS.iload Xh147.here hx rfl (hb hby at_237) rfl k) ?_
      show OGo p e below s _ _ _ (T146.setTop (mkF m 239 #[.val (.int va), .val (.int vb), .val (.int vs_), .val (.int vc), .val (.int vo), .val (.int vf), .val (.ref b53), .val (.int ((((vo + (1 : Int32)) + (1 : Int32)) + (1 : Int32)) + (1 : Int32))), .val (.int (4 : Int32)), .unset, .unset, .unset, .unset] [(.int vf), (.int ((((vo + (1 : Int32)) + (1 : Int32)) + (1 : Int32)) + (1 : Int32))), (.int vo), (.int (7 : Int32)), (.ref b53)]))
      obtain ⟨w148, hq148, hk148⟩ := own_kp4 ho vf _ _ _ _ 7 (by decide)
      obtain ⟨_, _, ⟨T148, L148, k148, n148⟩, -, X148, ⟨Lc148, hQ148, l148, y148, z148⟩, st148⟩ := Jvm.LawKit.callS Xh147 hx (y := (⟨"com/example/libmsgframe/libmsgframe/Utf8PutBeyondAsciiPinLaw", "kept", "([BIIIB)Z"⟩ : MethodName)) hown (mvT hZ (hw _ (List.mem_of_getElem? (i := 7) rfl))) (mvT hZ (hw _ (List.mem_of_getElem? (i := 8) rfl))) (mvT hZ (hw _ (List.mem_of_getElem? (i := 9) rfl))) (mvT hZ (hw _ (List.mem_of_getElem? (i := 10) rfl))) (by decide) (backOf (W := 0) (own_mkept l Z a0 hw [] b53 (7 : Int32) vo ((((vo + (1 : Int32)) + (1 : Int32)) + (1 : Int32)) + (1 : Int32)) vf w148 _ T88.heap n0 Z89 V133 hq148) hZ (hw _ (List.mem_of_getElem? (i := 10) rfl)) (hw _ (List.mem_of_getElem? (i := 9) rfl)) (by decide) (by decide)) (g := (mkF m 239 #[.val (.int va), .val (.int vb), .val (.int vs_), .val (.int vc), .val (.int vo), .val (.int vf), .val (.ref b53), .val (.int ((((vo + (1 : Int32)) + (1 : Int32)) + (1 : Int32)) + (1 : Int32))), .val (.int (4 : Int32)), .unset, .unset, .unset, .unset] [(.int vf), (.int ((((vo + (1 : Int32)) + (1 : Int32)) + (1 : Int32)) + (1 : Int32))), (.int vo), (.int (7 : Int32)), (.ref b53)])) rfl (by rw [hml]; rfl) (argsL := [(.ref b53), (.int (7 : Int32)), (.int vo), (.int ((((vo + (1 : Int32)) + (1 : Int32)) + (1 : Int32)) + (1 : Int32))), (.int vf)]) (rest := []) (lenOf own_pd1 rfl) rfl (by show 2 * 0 + _ ≤ _; exact Nat.le_of_eq rfl) (hb hby at_239) (fun _ _ => ⟨rfl, e146, (by decide : 1 + 0 ≤ _), (by decide : 8 + 0 ≤ _)⟩)
      dsimp only [Pt.U, Pt.locs, Pt.cells, Pt.slots] at X148 l148 y148 z148 st148 hQ148
      subst l148 y148 z148
      obtain ⟨rfl, N148q, e148⟩ := hQ148
      have N148 := Fr.app Nh147 N148q
      obtain ⟨Lh149, Xh149, Nh149⟩ := own_hide X148 N148
      refine OGo.on st148 ?_
      show OGo p e below s _ _ _ (T148.setTop (mkF m 242 #[.val (.int va), .val (.int vb), .val (.int vs_), .val (.int vc), .val (.int vo), .val (.int vf), .val (.ref b53), .val (.int ((((vo + (1 : Int32)) + (1 : Int32)) + (1 : Int32)) + (1 : Int32))), .val (.int (4 : Int32)), .unset, .unset, .unset, .unset] [(.int (own_kept w148 (7 : Int32) vo ((((vo + (1 : Int32)) + (1 : Int32)) + (1 : Int32)) + (1 : Int32)) vf))]))
      refine OGo.on (fun t k => XS.ifYes Xh149.here hx rfl (pc0 := 242) (pc' := 247) rfl (hb hby at_242) rfl ((if0 _ _).trans (feq (own_n0 hk148)).2) (by decide) (by decide) k) ?_
      show OGo p e below s _ _ _ (T148.setTop (mkF m 247 #[.val (.int va), .val (.int vb), .val (.int vs_), .val (.int vc), .val (.int vo), .val (.int vf), .val (.ref b53), .val (.int ((((vo + (1 : Int32)) + (1 : Int32)) + (1 : Int32)) + (1 : Int32))), .val (.int (4 : Int32)), .unset, .unset, .unset, .unset] []))
      refine OGo.on (fun t k => XS.aload Xh149.here hx rfl (hb hby at_247) rfl rfl k) ?_
      show OGo p e below s _ _ _ (T148.setTop (mkF m 249 #[.val (.int va), .val (.int vb), .val (.int vs_), .val (.int vc), .val (.int vo), .val (.int vf), .val (.ref b53), .val (.int ((((vo + (1 : Int32)) + (1 : Int32)) + (1 : Int32)) + (1 : Int32))), .val (.int (4 : Int32)), .unset, .unset, .unset, .unset] [(.ref b53)]))
      refine OGo.on (fun t k => XS.iload Xh149.here hx rfl (hb hby at_249) rfl k) ?_
      show OGo p e below s _ _ _ (T148.setTop (mkF m 251 #[.val (.int va), .val (.int vb), .val (.int vs_), .val (.int vc), .val (.int vo), .val (.int vf), .val (.ref b53), .val (.int ((((vo + (1 : Int32)) + (1 : Int32)) + (1 : Int32)) + (1 : Int32))), .val (.int (4 : Int32)), .unset, .unset, .unset, .unset] [(.int vo), (.ref b53)]))
      refine OGo.on (fun t k => OAL.baB Xh149 hx hZ e148 V133 (own_rd4 ho vf _ _ _ _).1 (hb hby at_251) k) ?_
      show OGo p e below s _ _ _ (T148.setTop (mkF m 252 #[.val (.int va), .val (.int vb), .val (.int vs_), .val (.int vc), .val (.int vo), .val (.int vf), .val (.ref b53), .val (.int ((((vo + (1 : Int32)) + (1 : Int32)) + (1 : Int32)) + (1 : Int32))), .val (.int (4 : Int32)), .unset, .unset, .unset, .unset] [(.int (nar .byte (((240 : Int32) ||| (vc >>> ((18 : Int32) &&& 31))).toInt8.toInt32)))]))
      refine OGo.on (fun t k => XS.sipush Xh149.here hx rfl (hb hby at_252) k) ?_
      show OGo p e below s _ _ _ (T148.setTop (mkF m 255 #[.val (.int va), .val (.int vb), .val (.int vs_), .val (.int vc), .val (.int vo), .val (.int vf), .val (.ref b53), .val (.int ((((vo + (1 : Int32)) + (1 : Int32)) + (1 : Int32)) + (1 : Int32))), .val (.int (4 : Int32)), .unset, .unset, .unset, .unset] [(.int (255 : Int32)), (.int (nar .byte (((240 : Int32) ||| (vc >>> ((18 : Int32) &&& 31))).toInt8.toInt32)))]))
      refine OGo.on (fun t k => XS.iand Xh149.here hx rfl (hb hby at_255) rfl k) ?_
      show OGo p e below s _ _ _ (T148.setTop (mkF m 256 #[.val (.int va), .val (.int vb), .val (.int vs_), .val (.int vc), .val (.int vo), .val (.int vf), .val (.ref b53), .val (.int ((((vo + (1 : Int32)) + (1 : Int32)) + (1 : Int32)) + (1 : Int32))), .val (.int (4 : Int32)), .unset, .unset, .unset, .unset] [(.int ((nar .byte (((240 : Int32) ||| (vc >>> ((18 : Int32) &&& 31))).toInt8.toInt32)) &&& (255 : Int32)))]))
      refine OGo.on (fun t k => XS.istore Xh149.here hx rfl (hb hby at_256) rfl (l' := #[.val (.int va), .val (.int vb), .val (.int vs_), .val (.int vc), .val (.int vo), .val (.int vf), .val (.ref b53), .val (.int ((((vo + (1 : Int32)) + (1 : Int32)) + (1 : Int32)) + (1 : Int32))), .val (.int (4 : Int32)), .val (.int ((nar .byte (((240 : Int32) ||| (vc >>> ((18 : Int32) &&& 31))).toInt8.toInt32)) &&& (255 : Int32))), .unset, .unset, .unset]) rfl k) ?_
      show OGo p e below s _ _ _ (T148.setTop (mkF m 258 #[.val (.int va), .val (.int vb), .val (.int vs_), .val (.int vc), .val (.int vo), .val (.int vf), .val (.ref b53), .val (.int ((((vo + (1 : Int32)) + (1 : Int32)) + (1 : Int32)) + (1 : Int32))), .val (.int (4 : Int32)), .val (.int ((nar .byte (((240 : Int32) ||| (vc >>> ((18 : Int32) &&& 31))).toInt8.toInt32)) &&& (255 : Int32))), .unset, .unset, .unset] []))
      generalize hv_r0 : ((nar .byte (((240 : Int32) ||| (vc >>> ((18 : Int32) &&& 31))).toInt8.toInt32)) &&& (255 : Int32)) = r0
      show OGo p e below s _ _ _ (T148.setTop (mkF m 258 #[.val (.int va), .val (.int vb), .val (.int vs_), .val (.int vc), .val (.int vo), .val (.int vf), .val (.ref b53), .val (.int ((((vo + (1 : Int32)) + (1 : Int32)) + (1 : Int32)) + (1 : Int32))), .val (.int (4 : Int32)), .val (.int r0), .unset, .unset, .unset] []))
      refine OGo.on (fun t k => XS.aload Xh149.here hx rfl (hb hby at_258) rfl rfl k) ?_
      show OGo p e below s _ _ _ (T148.setTop (mkF m 260 #[.val (.int va), .val (.int vb), .val (.int vs_), .val (.int vc), .val (.int vo), .val (.int vf), .val (.ref b53), .val (.int ((((vo + (1 : Int32)) + (1 : Int32)) + (1 : Int32)) + (1 : Int32))), .val (.int (4 : Int32)), .val (.int r0), .unset, .unset, .unset] [(.ref b53)]))
      refine OGo.on (fun t k => XS.iload Xh149.here hx rfl (hb hby at_260) rfl k) ?_
      show OGo p e below s _ _ _ (T148.setTop (mkF m 262 #[.val (.int va), .val (.int vb), .val (.int vs_), .val (.int vc), .val (.int vo), .val (.int vf), .val (.ref b53), .val (.int ((((vo + (1 : Int32)) + (1 : Int32)) + (1 : Int32)) + (1 : Int32))), .val (.int (4 : Int32)), .val (.int r0), .unset, .unset, .unset] [(.int vo), (.ref b53)]))
      refine OGo.on (fun t k => XS.iconst Xh149.here hx rfl (hb hby at_262) k) ?_
      show OGo p e below s _ _ _ (T148.setTop (mkF m 263 #[.val (.int va), .val (.int vb), .val (.int vs_), .val (.int vc), .val (.int vo), .val (.int vf), .val (.ref b53), .val (.int ((((vo + (1 : Int32)) + (1 : Int32)) + (1 : Int32)) + (1 : Int32))), .val (.int (4 : Int32)), .val (.int r0), .unset, .unset, .unset] [(.int (1 : Int32)), (.int vo), (.ref b53)]))
      refine OGo.on (fun t k => XS.iadd Xh149.here hx rfl (hb hby at_263) rfl k) ?_
      show OGo p e below s _ _ _ (T148.setTop (mkF m 264 #[.val (.int va), .val (.int vb), .val (.int vs_), .val (.int vc), .val (.int vo), .val (.int vf), .val (.ref b53), .val (.int ((((vo + (1 : Int32)) + (1 : Int32)) + (1 : Int32)) + (1 : Int32))), .val (.int (4 : Int32)), .val (.int r0), .unset, .unset, .unset] [(.int (vo + (1 : Int32))), (.ref b53)]))
      refine OGo.on (fun t k => OAL.baB Xh149 hx hZ e148 V133 (own_rd4 ho vf _ _ _ _).2.1 (hb hby at_264) k) ?_
      show OGo p e below s _ _ _ (T148.setTop (mkF m 265 #[.val (.int va), .val (.int vb), .val (.int vs_), .val (.int vc), .val (.int vo), .val (.int vf), .val (.ref b53), .val (.int ((((vo + (1 : Int32)) + (1 : Int32)) + (1 : Int32)) + (1 : Int32))), .val (.int (4 : Int32)), .val (.int r0), .unset, .unset, .unset] [(.int (nar .byte (((128 : Int32) ||| ((vc >>> ((12 : Int32) &&& 31)) &&& (63 : Int32))).toInt8.toInt32)))]))
      refine OGo.on (fun t k => XS.sipush Xh149.here hx rfl (hb hby at_265) k) ?_
      show OGo p e below s _ _ _ (T148.setTop (mkF m 268 #[.val (.int va), .val (.int vb), .val (.int vs_), .val (.int vc), .val (.int vo), .val (.int vf), .val (.ref b53), .val (.int ((((vo + (1 : Int32)) + (1 : Int32)) + (1 : Int32)) + (1 : Int32))), .val (.int (4 : Int32)), .val (.int r0), .unset, .unset, .unset] [(.int (255 : Int32)), (.int (nar .byte (((128 : Int32) ||| ((vc >>> ((12 : Int32) &&& 31)) &&& (63 : Int32))).toInt8.toInt32)))]))
      refine OGo.on (fun t k => XS.iand Xh149.here hx rfl (hb hby at_268) rfl k) ?_
      show OGo p e below s _ _ _ (T148.setTop (mkF m 269 #[.val (.int va), .val (.int vb), .val (.int vs_), .val (.int vc), .val (.int vo), .val (.int vf), .val (.ref b53), .val (.int ((((vo + (1 : Int32)) + (1 : Int32)) + (1 : Int32)) + (1 : Int32))), .val (.int (4 : Int32)), .val (.int r0), .unset, .unset, .unset] [(.int ((nar .byte (((128 : Int32) ||| ((vc >>> ((12 : Int32) &&& 31)) &&& (63 : Int32))).toInt8.toInt32)) &&& (255 : Int32)))]))
      refine OGo.on (fun t k => XS.istore Xh149.here hx rfl (hb hby at_269) rfl (l' := #[.val (.int va), .val (.int vb), .val (.int vs_), .val (.int vc), .val (.int vo), .val (.int vf), .val (.ref b53), .val (.int ((((vo + (1 : Int32)) + (1 : Int32)) + (1 : Int32)) + (1 : Int32))), .val (.int (4 : Int32)), .val (.int r0), .val (.int ((nar .byte (((128 : Int32) ||| ((vc >>> ((12 : Int32) &&& 31)) &&& (63 : Int32))).toInt8.toInt32)) &&& (255 : Int32))), .unset, .unset]) rfl k) ?_
      show OGo p e below s _ _ _ (T148.setTop (mkF m 271 #[.val (.int va), .val (.int vb), .val (.int vs_), .val (.int vc), .val (.int vo), .val (.int vf), .val (.ref b53), .val (.int ((((vo + (1 : Int32)) + (1 : Int32)) + (1 : Int32)) + (1 : Int32))), .val (.int (4 : Int32)), .val (.int r0), .val (.int ((nar .byte (((128 : Int32) ||| ((vc >>> ((12 : Int32) &&& 31)) &&& (63 : Int32))).toInt8.toInt32)) &&& (255 : Int32))), .unset, .unset] []))
      generalize hv_r1 : ((nar .byte (((128 : Int32) ||| ((vc >>> ((12 : Int32) &&& 31)) &&& (63 : Int32))).toInt8.toInt32)) &&& (255 : Int32)) = r1
      show OGo p e below s _ _ _ (T148.setTop (mkF m 271 #[.val (.int va), .val (.int vb), .val (.int vs_), .val (.int vc), .val (.int vo), .val (.int vf), .val (.ref b53), .val (.int ((((vo + (1 : Int32)) + (1 : Int32)) + (1 : Int32)) + (1 : Int32))), .val (.int (4 : Int32)), .val (.int r0), .val (.int r1), .unset, .unset] []))
      refine OGo.on (fun t k => XS.aload Xh149.here hx rfl (hb hby at_271) rfl rfl k) ?_
      show OGo p e below s _ _ _ (T148.setTop (mkF m 273 #[.val (.int va), .val (.int vb), .val (.int vs_), .val (.int vc), .val (.int vo), .val (.int vf), .val (.ref b53), .val (.int ((((vo + (1 : Int32)) + (1 : Int32)) + (1 : Int32)) + (1 : Int32))), .val (.int (4 : Int32)), .val (.int r0), .val (.int r1), .unset, .unset] [(.ref b53)]))
      refine OGo.on (fun t k => XS.iload Xh149.here hx rfl (hb hby at_273) rfl k) ?_
      show OGo p e below s _ _ _ (T148.setTop (mkF m 275 #[.val (.int va), .val (.int vb), .val (.int vs_), .val (.int vc), .val (.int vo), .val (.int vf), .val (.ref b53), .val (.int ((((vo + (1 : Int32)) + (1 : Int32)) + (1 : Int32)) + (1 : Int32))), .val (.int (4 : Int32)), .val (.int r0), .val (.int r1), .unset, .unset] [(.int vo), (.ref b53)]))
      refine OGo.on (fun t k => XS.iconst Xh149.here hx rfl (hb hby at_275) k) ?_
      show OGo p e below s _ _ _ (T148.setTop (mkF m 276 #[.val (.int va), .val (.int vb), .val (.int vs_), .val (.int vc), .val (.int vo), .val (.int vf), .val (.ref b53), .val (.int ((((vo + (1 : Int32)) + (1 : Int32)) + (1 : Int32)) + (1 : Int32))), .val (.int (4 : Int32)), .val (.int r0), .val (.int r1), .unset, .unset] [(.int (2 : Int32)), (.int vo), (.ref b53)]))
      refine OGo.on (fun t k => XS.iadd Xh149.here hx rfl (hb hby at_276) rfl k) ?_
      show OGo p e below s _ _ _ (T148.setTop (mkF m 277 #[.val (.int va), .val (.int vb), .val (.int vs_), .val (.int vc), .val (.int vo), .val (.int vf), .val (.ref b53), .val (.int ((((vo + (1 : Int32)) + (1 : Int32)) + (1 : Int32)) + (1 : Int32))), .val (.int (4 : Int32)), .val (.int r0), .val (.int r1), .unset, .unset] [(.int (vo + (2 : Int32))), (.ref b53)]))
      refine OGo.on (fun t k => OAL.baB Xh149 hx hZ e148 V133 (own_rd4 ho vf _ _ _ _).2.2.1 (hb hby at_277) k) ?_
      show OGo p e below s _ _ _ (T148.setTop (mkF m 278 #[.val (.int va), .val (.int vb), .val (.int vs_), .val (.int vc), .val (.int vo), .val (.int vf), .val (.ref b53), .val (.int ((((vo + (1 : Int32)) + (1 : Int32)) + (1 : Int32)) + (1 : Int32))), .val (.int (4 : Int32)), .val (.int r0), .val (.int r1), .unset, .unset] [(.int (nar .byte (((128 : Int32) ||| ((vc >>> ((6 : Int32) &&& 31)) &&& (63 : Int32))).toInt8.toInt32)))]))
      refine OGo.on (fun t k => XS.sipush Xh149.here hx rfl (hb hby at_278) k) ?_
      show OGo p e below s _ _ _ (T148.setTop (mkF m 281 #[.val (.int va), .val (.int vb), .val (.int vs_), .val (.int vc), .val (.int vo), .val (.int vf), .val (.ref b53), .val (.int ((((vo + (1 : Int32)) + (1 : Int32)) + (1 : Int32)) + (1 : Int32))), .val (.int (4 : Int32)), .val (.int r0), .val (.int r1), .unset, .unset] [(.int (255 : Int32)), (.int (nar .byte (((128 : Int32) ||| ((vc >>> ((6 : Int32) &&& 31)) &&& (63 : Int32))).toInt8.toInt32)))]))
      refine OGo.on (fun t k => XS.iand Xh149.here hx rfl (hb hby at_281) rfl k) ?_
      show OGo p e below s _ _ _ (T148.setTop (mkF m 282 #[.val (.int va), .val (.int vb), .val (.int vs_), .val (.int vc), .val (.int vo), .val (.int vf), .val (.ref b53), .val (.int ((((vo + (1 : Int32)) + (1 : Int32)) + (1 : Int32)) + (1 : Int32))), .val (.int (4 : Int32)), .val (.int r0), .val (.int r1), .unset, .unset] [(.int ((nar .byte (((128 : Int32) ||| ((vc >>> ((6 : Int32) &&& 31)) &&& (63 : Int32))).toInt8.toInt32)) &&& (255 : Int32)))]))
      refine OGo.on (fun t k => XS.istore Xh149.here hx rfl (hb hby at_282) rfl (l' := #[.val (.int va), .val (.int vb), .val (.int vs_), .val (.int vc), .val (.int vo), .val (.int vf), .val (.ref b53), .val (.int ((((vo + (1 : Int32)) + (1 : Int32)) + (1 : Int32)) + (1 : Int32))), .val (.int (4 : Int32)), .val (.int r0), .val (.int r1), .val (.int ((nar .byte (((128 : Int32) ||| ((vc >>> ((6 : Int32) &&& 31)) &&& (63 : Int32))).toInt8.toInt32)) &&& (255 : Int32))), .unset]) rfl k) ?_
      show OGo p e below s _ _ _ (T148.setTop (mkF m 284 #[.val (.int va), .val (.int vb), .val (.int vs_), .val (.int vc), .val (.int vo), .val (.int vf), .val (.ref b53), .val (.int ((((vo + (1 : Int32)) + (1 : Int32)) + (1 : Int32)) + (1 : Int32))), .val (.int (4 : Int32)), .val (.int r0), .val (.int r1), .val (.int ((nar .byte (((128 : Int32) ||| ((vc >>> ((6 : Int32) &&& 31)) &&& (63 : Int32))).toInt8.toInt32)) &&& (255 : Int32))), .unset] []))
      generalize hv_r2 : ((nar .byte (((128 : Int32) ||| ((vc >>> ((6 : Int32) &&& 31)) &&& (63 : Int32))).toInt8.toInt32)) &&& (255 : Int32)) = r2
      show OGo p e below s _ _ _ (T148.setTop (mkF m 284 #[.val (.int va), .val (.int vb), .val (.int vs_), .val (.int vc), .val (.int vo), .val (.int vf), .val (.ref b53), .val (.int ((((vo + (1 : Int32)) + (1 : Int32)) + (1 : Int32)) + (1 : Int32))), .val (.int (4 : Int32)), .val (.int r0), .val (.int r1), .val (.int r2), .unset] []))
      refine OGo.on (fun t k => XS.aload Xh149.here hx rfl (hb hby at_284) rfl rfl k) ?_
      show OGo p e below s _ _ _ (T148.setTop (mkF m 286 #[.val (.int va), .val (.int vb), .val (.int vs_), .val (.int vc), .val (.int vo), .val (.int vf), .val (.ref b53), .val (.int ((((vo + (1 : Int32)) + (1 : Int32)) + (1 : Int32)) + (1 : Int32))), .val (.int (4 : Int32)), .val (.int r0), .val (.int r1), .val (.int r2), .unset] [(.ref b53)]))
      refine OGo.on (fun t k => XS.iload Xh149.here hx rfl (hb hby at_286) rfl k) ?_
      show OGo p e below s _ _ _ (T148.setTop (mkF m 288 #[.val (.int va), .val (.int vb), .val (.int vs_), .val (.int vc), .val (.int vo), .val (.int vf), .val (.ref b53), .val (.int ((((vo + (1 : Int32)) + (1 : Int32)) + (1 : Int32)) + (1 : Int32))), .val (.int (4 : Int32)), .val (.int r0), .val (.int r1), .val (.int r2), .unset] [(.int vo), (.ref b53)]))
      refine OGo.on (fun t k => XS.iconst Xh149.here hx rfl (hb hby at_288) k) ?_
      show OGo p e below s _ _ _ (T148.setTop (mkF m 289 #[.val (.int va), .val (.int vb), .val (.int vs_), .val (.int vc), .val (.int vo), .val (.int vf), .val (.ref b53), .val (.int ((((vo + (1 : Int32)) + (1 : Int32)) + (1 : Int32)) + (1 : Int32))), .val (.int (4 : Int32)), .val (.int r0), .val (.int r1), .val (.int r2), .unset] [(.int (3 : Int32)), (.int vo), (.ref b53)]))
      refine OGo.on (fun t k => XS.iadd Xh149.here hx rfl (hb hby at_289) rfl k) ?_
      show OGo p e below s _ _ _ (T148.setTop (mkF m 290 #[.val (.int va), .val (.int vb), .val (.int vs_), .val (.int vc), .val (.int vo), .val (.int vf), .val (.ref b53), .val (.int ((((vo + (1 : Int32)) + (1 : Int32)) + (1 : Int32)) + (1 : Int32))), .val (.int (4 : Int32)), .val (.int r0), .val (.int r1), .val (.int r2), .unset] [(.int (vo + (3 : Int32))), (.ref b53)]))
      refine OGo.on (fun t k => OAL.baB Xh149 hx hZ e148 V133 (own_rd4 ho vf _ _ _ _).2.2.2 (hb hby at_290) k) ?_
      show OGo p e below s _ _ _ (T148.setTop (mkF m 291 #[.val (.int va), .val (.int vb), .val (.int vs_), .val (.int vc), .val (.int vo), .val (.int vf), .val (.ref b53), .val (.int ((((vo + (1 : Int32)) + (1 : Int32)) + (1 : Int32)) + (1 : Int32))), .val (.int (4 : Int32)), .val (.int r0), .val (.int r1), .val (.int r2), .unset] [(.int (nar .byte (((128 : Int32) ||| (vc &&& (63 : Int32))).toInt8.toInt32)))]))
      refine OGo.on (fun t k => XS.sipush Xh149.here hx rfl (hb hby at_291) k) ?_
      show OGo p e below s _ _ _ (T148.setTop (mkF m 294 #[.val (.int va), .val (.int vb), .val (.int vs_), .val (.int vc), .val (.int vo), .val (.int vf), .val (.ref b53), .val (.int ((((vo + (1 : Int32)) + (1 : Int32)) + (1 : Int32)) + (1 : Int32))), .val (.int (4 : Int32)), .val (.int r0), .val (.int r1), .val (.int r2), .unset] [(.int (255 : Int32)), (.int (nar .byte (((128 : Int32) ||| (vc &&& (63 : Int32))).toInt8.toInt32)))]))
      refine OGo.on (fun t k => XS.iand Xh149.here hx rfl (hb hby at_294) rfl k) ?_
      show OGo p e below s _ _ _ (T148.setTop (mkF m 295 #[.val (.int va), .val (.int vb), .val (.int vs_), .val (.int vc), .val (.int vo), .val (.int vf), .val (.ref b53), .val (.int ((((vo + (1 : Int32)) + (1 : Int32)) + (1 : Int32)) + (1 : Int32))), .val (.int (4 : Int32)), .val (.int r0), .val (.int r1), .val (.int r2), .unset] [(.int ((nar .byte (((128 : Int32) ||| (vc &&& (63 : Int32))).toInt8.toInt32)) &&& (255 : Int32)))]))
      refine OGo.on (fun t k => XS.istore Xh149.here hx rfl (hb hby at_295) rfl (l' := #[.val (.int va), .val (.int vb), .val (.int vs_), .val (.int vc), .val (.int vo), .val (.int vf), .val (.ref b53), .val (.int ((((vo + (1 : Int32)) + (1 : Int32)) + (1 : Int32)) + (1 : Int32))), .val (.int (4 : Int32)), .val (.int r0), .val (.int r1), .val (.int r2), .val (.int ((nar .byte (((128 : Int32) ||| (vc &&& (63 : Int32))).toInt8.toInt32)) &&& (255 : Int32)))]) rfl k) ?_
      show OGo p e below s _ _ _ (T148.setTop (mkF m 297 #[.val (.int va), .val (.int vb), .val (.int vs_), .val (.int vc), .val (.int vo), .val (.int vf), .val (.ref b53), .val (.int ((((vo + (1 : Int32)) + (1 : Int32)) + (1 : Int32)) + (1 : Int32))), .val (.int (4 : Int32)), .val (.int r0), .val (.int r1), .val (.int r2), .val (.int ((nar .byte (((128 : Int32) ||| (vc &&& (63 : Int32))).toInt8.toInt32)) &&& (255 : Int32)))] []))
      generalize hv_r3 : ((nar .byte (((128 : Int32) ||| (vc &&& (63 : Int32))).toInt8.toInt32)) &&& (255 : Int32)) = r3
      show OGo p e below s _ _ _ (T148.setTop (mkF m 297 #[.val (.int va), .val (.int vb), .val (.int vs_), .val (.int vc), .val (.int vo), .val (.int vf), .val (.ref b53), .val (.int ((((vo + (1 : Int32)) + (1 : Int32)) + (1 : Int32)) + (1 : Int32))), .val (.int (4 : Int32)), .val (.int r0), .val (.int r1), .val (.int r2), .val (.int r3)] []))
      have e0 : n32 r0 = 240 + n32 vc / 262144 := by rw [← hv_r0]; exact own_ld vc ((18 : Int32) &&& 31) 240 (k := 18) (M := 240) (j := 3) (q := 30) (by omega) (by decide) (by decide) (by decide) (by decide) (by omega)
      have e1 : n32 r1 = 128 + n32 vc / 4096 % 64 := by rw [← hv_r1]; exact own_ct vc ((12 : Int32) &&& 31) (k := 12) (by omega) (by decide)
      have e2 : n32 r2 = 128 + n32 vc / 64 % 64 := by rw [← hv_r2]; exact own_ct vc ((6 : Int32) &&& 31) (k := 6) (by omega) (by decide)
      have e3 : n32 r3 = 128 + n32 vc % 64 := by rw [← hv_r3]; exact own_ct0 vc (by omega)
      refine OGo.on (fun t k => XS.iload Xh149.here hx rfl (hb hby at_297) rfl k) ?_
      show OGo p e below s _ _ _ (T148.setTop (mkF m 299 #[.val (.int va), .val (.int vb), .val (.int vs_), .val (.int vc), .val (.int vo), .val (.int vf), .val (.ref b53), .val (.int ((((vo + (1 : Int32)) + (1 : Int32)) + (1 : Int32)) + (1 : Int32))), .val (.int (4 : Int32)), .val (.int r0), .val (.int r1), .val (.int r2), .val (.int r3)] [(.int (4 : Int32))]))
      refine OGo.on (fun t k => XS.iconst Xh149.here hx rfl (hb hby at_299) k) ?_
      show OGo p e below s _ _ _ (T148.setTop (mkF m 300 #[.val (.int va), .val (.int vb), .val (.int vs_), .val (.int vc), .val (.int vo), .val (.int vf), .val (.ref b53), .val (.int ((((vo + (1 : Int32)) + (1 : Int32)) + (1 : Int32)) + (1 : Int32))), .val (.int (4 : Int32)), .val (.int r0), .val (.int r1), .val (.int r2), .val (.int r3)] [(.int (2 : Int32)), (.int (4 : Int32))]))
      refine OGo.on (fun t k => XS.icmpYes Xh149.here hx rfl (pc0 := 300) (pc' := 347) rfl (hb hby at_300) rfl (feq (by decide)).2 (by decide) (by decide) k) ?_
      show OGo p e below s _ _ _ (T148.setTop (mkF m 347 #[.val (.int va), .val (.int vb), .val (.int vs_), .val (.int vc), .val (.int vo), .val (.int vf), .val (.ref b53), .val (.int ((((vo + (1 : Int32)) + (1 : Int32)) + (1 : Int32)) + (1 : Int32))), .val (.int (4 : Int32)), .val (.int r0), .val (.int r1), .val (.int r2), .val (.int r3)] []))
      refine OGo.on (fun t k => XS.iload Xh149.here hx rfl (hb hby at_347) rfl k) ?_
      show OGo p e below s _ _ _ (T148.setTop (mkF m 349 #[.val (.int va), .val (.int vb), .val (.int vs_), .val (.int vc), .val (.int vo), .val (.int vf), .val (.ref b53), .val (.int ((((vo + (1 : Int32)) + (1 : Int32)) + (1 : Int32)) + (1 : Int32))), .val (.int (4 : Int32)), .val (.int r0), .val (.int r1), .val (.int r2), .val (.int r3)] [(.int (4 : Int32))]))
      refine OGo.on (fun t k => XS.iconst Xh149.here hx rfl (hb hby at_349) k) ?_
      show OGo p e below s _ _ _ (T148.setTop (mkF m 350 #[.val (.int va), .val (.int vb), .val (.int vs_), .val (.int vc), .val (.int vo), .val (.int vf), .val (.ref b53), .val (.int ((((vo + (1 : Int32)) + (1 : Int32)) + (1 : Int32)) + (1 : Int32))), .val (.int (4 : Int32)), .val (.int r0), .val (.int r1), .val (.int r2), .val (.int r3)] [(.int (3 : Int32)), (.int (4 : Int32))]))
      refine OGo.on (fun t k => XS.icmpYes Xh149.here hx rfl (pc0 := 350) (pc' := 414) rfl (hb hby at_350) rfl (feq (by decide)).2 (by decide) (by decide) k) ?_
      show OGo p e below s _ _ _ (T148.setTop (mkF m 414 #[.val (.int va), .val (.int vb), .val (.int vs_), .val (.int vc), .val (.int vo), .val (.int vf), .val (.ref b53), .val (.int ((((vo + (1 : Int32)) + (1 : Int32)) + (1 : Int32)) + (1 : Int32))), .val (.int (4 : Int32)), .val (.int r0), .val (.int r1), .val (.int r2), .val (.int r3)] []))
      refine OGo.on (fun t k => XS.iload Xh149.here hx rfl (hb hby at_414) rfl k) ?_
      show OGo p e below s _ _ _ (T148.setTop (mkF m 416 #[.val (.int va), .val (.int vb), .val (.int vs_), .val (.int vc), .val (.int vo), .val (.int vf), .val (.ref b53), .val (.int ((((vo + (1 : Int32)) + (1 : Int32)) + (1 : Int32)) + (1 : Int32))), .val (.int (4 : Int32)), .val (.int r0), .val (.int r1), .val (.int r2), .val (.int r3)] [(.int r0)]))
      refine OGo.on (fun t k => XS.sipush Xh149.here hx rfl (hb hby at_416) k) ?_
      show OGo p e below s _ _ _ (T148.setTop (mkF m 419 #[.val (.int va), .val (.int vb), .val (.int vs_), .val (.int vc), .val (.int vo), .val (.int vf), .val (.ref b53), .val (.int ((((vo + (1 : Int32)) + (1 : Int32)) + (1 : Int32)) + (1 : Int32))), .val (.int (4 : Int32)), .val (.int r0), .val (.int r1), .val (.int r2), .val (.int r3)] [(.int (248 : Int32)), (.int r0)]))
      refine OGo.on (fun t k => XS.iand Xh149.here hx rfl (hb hby at_419) rfl k) ?_
      show OGo p e below s _ _ _ (T148.setTop (mkF m 420 #[.val (.int va), .val (.int vb), .val (.int vs_), .val (.int vc), .val (.int vo), .val (.int vf), .val (.ref b53), .val (.int ((((vo + (1 : Int32)) + (1 : Int32)) + (1 : Int32)) + (1 : Int32))), .val (.int (4 : Int32)), .val (.int r0), .val (.int r1), .val (.int r2), .val (.int r3)] [(.int (r0 &&& (248 : Int32)))]))
      refine OGo.on (fun t k => XS.sipush Xh149.here hx rfl (hb hby at_420) k) ?_
      show OGo p e below s _ _ _ (T148.setTop (mkF m 423 #[.val (.int va), .val (.int vb), .val (.int vs_), .val (.int vc), .val (.int vo), .val (.int vf), .val (.ref b53), .val (.int ((((vo + (1 : Int32)) + (1 : Int32)) + (1 : Int32)) + (1 : Int32))), .val (.int (4 : Int32)), .val (.int r0), .val (.int r1), .val (.int r2), .val (.int r3)] [(.int (240 : Int32)), (.int (r0 &&& (248 : Int32)))]))
      refine OGo.on (fun t k => XS.icmpNo Xh149.here hx rfl (hb hby at_423) rfl (teq (own_hd4 e0 (by omega)).1).2 k) ?_
      show OGo p e below s _ _ _ (T148.setTop (mkF m 426 #[.val (.int va), .val (.int vb), .val (.int vs_), .val (.int vc), .val (.int vo), .val (.int vf), .val (.ref b53), .val (.int ((((vo + (1 : Int32)) + (1 : Int32)) + (1 : Int32)) + (1 : Int32))), .val (.int (4 : Int32)), .val (.int r0), .val (.int r1), .val (.int r2), .val (.int r3)] []))
      refine OGo.on (fun t k => XS.iload Xh149.here hx rfl (hb hby at_426) rfl k) ?_
      show OGo p e below s _ _ _ (T148.setTop (mkF m 428 #[.val (.int va), .val (.int vb), .val (.int vs_), .val (.int vc), .val (.int vo), .val (.int vf), .val (.ref b53), .val (.int ((((vo + (1 : Int32)) + (1 : Int32)) + (1 : Int32)) + (1 : Int32))), .val (.int (4 : Int32)), .val (.int r0), .val (.int r1), .val (.int r2), .val (.int r3)] [(.int r1)]))
      obtain ⟨_, _, ⟨T150, L150, k150, n150⟩, -, X150, ⟨Lc150, hQ150, l150, y150, z150⟩, st150⟩ := Jvm.LawKit.callS Xh149 hx (y := (⟨"com/example/libmsgframe/libmsgframe/Utf8PutBeyondAsciiPinLaw", "cont", "(I)Z"⟩ : MethodName)) hown (mvT hZ (hw _ (List.mem_of_getElem? (i := 11) rfl))) (mvT hZ (hw _ (List.mem_of_getElem? (i := 12) rfl))) (mvT hZ (hw _ (List.mem_of_getElem? (i := 9) rfl))) (mvT hZ (hw _ (List.mem_of_getElem? (i := 13) rfl))) (by decide) (backOf (W := 0) (own_mcont l Z a0 hw [] r1 T88.heap n0 Z89) hZ (hw _ (List.mem_of_getElem? (i := 13) rfl)) (hw _ (List.mem_of_getElem? (i := 9) rfl)) (by decide) (by decide)) (g := (mkF m 428 #[.val (.int va), .val (.int vb), .val (.int vs_), .val (.int vc), .val (.int vo), .val (.int vf), .val (.ref b53), .val (.int ((((vo + (1 : Int32)) + (1 : Int32)) + (1 : Int32)) + (1 : Int32))), .val (.int (4 : Int32)), .val (.int r0), .val (.int r1), .val (.int r2), .val (.int r3)] [(.int r1)])) rfl (by rw [hml]; rfl) (argsL := [(.int r1)]) (rest := []) (lenOf own_pd2 rfl) rfl (by show 2 * 0 + _ ≤ _; exact Nat.le_of_eq rfl) (hb hby at_428) (fun _ _ => ⟨rfl, e148, (by decide : 1 + 0 ≤ _), (by decide : 8 + 0 ≤ _)⟩)
      dsimp only [Pt.U, Pt.locs, Pt.cells, Pt.slots] at X150 l150 y150 z150 st150 hQ150
      subst l150 y150 z150
      obtain ⟨rfl, N150q, e150⟩ := hQ150
      have N150 := Fr.app Nh149 N150q
      obtain ⟨Lh151, Xh151, Nh151⟩ := own_hide X150 N150
      refine OGo.on st150 ?_
      show OGo p e below s _ _ _ (T150.setTop (mkF m 431 #[.val (.int va), .val (.int vb), .val (.int vs_), .val (.int vc), .val (.int vo), .val (.int vf), .val (.ref b53), .val (.int ((((vo + (1 : Int32)) + (1 : Int32)) + (1 : Int32)) + (1 : Int32))), .val (.int (4 : Int32)), .val (.int r0), .val (.int r1), .val (.int r2), .val (.int r3)] [(.int (own_cont r1))]))
      refine OGo.on (fun t k => XS.ifNo Xh151.here hx rfl (hb hby at_431) rfl ((if0 _ _).trans (feq (own_cont1 e1 (by omega))).1) k) ?_
      show OGo p e below s _ _ _ (T150.setTop (mkF m 434 #[.val (.int va), .val (.int vb), .val (.int vs_), .val (.int vc), .val (.int vo), .val (.int vf), .val (.ref b53), .val (.int ((((vo + (1 : Int32)) + (1 : Int32)) + (1 : Int32)) + (1 : Int32))), .val (.int (4 : Int32)), .val (.int r0), .val (.int r1), .val (.int r2), .val (.int r3)] []))
      refine OGo.on (fun t k => XS.iload Xh151.here hx rfl (hb hby at_434) rfl k) ?_
      show OGo p e below s _ _ _ (T150.setTop (mkF m 436 #[.val (.int va), .val (.int vb), .val (.int vs_), .val (.int vc), .val (.int vo), .val (.int vf), .val (.ref b53), .val (.int ((((vo + (1 : Int32)) + (1 : Int32)) + (1 : Int32)) + (1 : Int32))), .val (.int (4 : Int32)), .val (.int r0), .val (.int r1), .val (.int r2), .val (.int r3)] [(.int r2)]))
      obtain ⟨_, _, ⟨T152, L152, k152, n152⟩, -, X152, ⟨Lc152, hQ152, l152, y152, z152⟩, st152⟩ := Jvm.LawKit.callS Xh151 hx (y := (⟨"com/example/libmsgframe/libmsgframe/Utf8PutBeyondAsciiPinLaw", "cont", "(I)Z"⟩ : MethodName)) hown (mvT hZ (hw _ (List.mem_of_getElem? (i := 11) rfl))) (mvT hZ (hw _ (List.mem_of_getElem? (i := 12) rfl))) (mvT hZ (hw _ (List.mem_of_getElem? (i := 9) rfl))) (mvT hZ (hw _ (List.mem_of_getElem? (i := 13) rfl))) (by decide) (backOf (W := 0) (own_mcont l Z a0 hw [] r2 T88.heap n0 Z89) hZ (hw _ (List.mem_of_getElem? (i := 13) rfl)) (hw _ (List.mem_of_getElem? (i := 9) rfl)) (by decide) (by decide)) (g := (mkF m 436 #[.val (.int va), .val (.int vb), .val (.int vs_), .val (.int vc), .val (.int vo), .val (.int vf), .val (.ref b53), .val (.int ((((vo + (1 : Int32)) + (1 : Int32)) + (1 : Int32)) + (1 : Int32))), .val (.int (4 : Int32)), .val (.int r0), .val (.int r1), .val (.int r2), .val (.int r3)] [(.int r2)])) rfl (by rw [hml]; rfl) (argsL := [(.int r2)]) (rest := []) (lenOf own_pd2 rfl) rfl (by show 2 * 0 + _ ≤ _; exact Nat.le_of_eq rfl) (hb hby at_436) (fun _ _ => ⟨rfl, e150, (by decide : 1 + 0 ≤ _), (by decide : 8 + 0 ≤ _)⟩)
      dsimp only [Pt.U, Pt.locs, Pt.cells, Pt.slots] at X152 l152 y152 z152 st152 hQ152
      subst l152 y152 z152
      obtain ⟨rfl, N152q, e152⟩ := hQ152
      have N152 := Fr.app Nh151 N152q
      obtain ⟨Lh153, Xh153, Nh153⟩ := own_hide X152 N152
      refine OGo.on st152 ?_
      show OGo p e below s _ _ _ (T152.setTop (mkF m 439 #[.val (.int va), .val (.int vb), .val (.int vs_), .val (.int vc), .val (.int vo), .val (.int vf), .val (.ref b53), .val (.int ((((vo + (1 : Int32)) + (1 : Int32)) + (1 : Int32)) + (1 : Int32))), .val (.int (4 : Int32)), .val (.int r0), .val (.int r1), .val (.int r2), .val (.int r3)] [(.int (own_cont r2))]))
      refine OGo.on (fun t k => XS.ifNo Xh153.here hx rfl (hb hby at_439) rfl ((if0 _ _).trans (feq (own_cont1 e2 (by omega))).1) k) ?_
      show OGo p e below s _ _ _ (T152.setTop (mkF m 442 #[.val (.int va), .val (.int vb), .val (.int vs_), .val (.int vc), .val (.int vo), .val (.int vf), .val (.ref b53), .val (.int ((((vo + (1 : Int32)) + (1 : Int32)) + (1 : Int32)) + (1 : Int32))), .val (.int (4 : Int32)), .val (.int r0), .val (.int r1), .val (.int r2), .val (.int r3)] []))
      refine OGo.on (fun t k => XS.iload Xh153.here hx rfl (hb hby at_442) rfl k) ?_
      show OGo p e below s _ _ _ (T152.setTop (mkF m 444 #[.val (.int va), .val (.int vb), .val (.int vs_), .val (.int vc), .val (.int vo), .val (.int vf), .val (.ref b53), .val (.int ((((vo + (1 : Int32)) + (1 : Int32)) + (1 : Int32)) + (1 : Int32))), .val (.int (4 : Int32)), .val (.int r0), .val (.int r1), .val (.int r2), .val (.int r3)] [(.int r3)]))
      obtain ⟨_, _, ⟨T154, L154, k154, n154⟩, -, X154, ⟨Lc154, hQ154, l154, y154, z154⟩, st154⟩ := Jvm.LawKit.callS Xh153 hx (y := (⟨"com/example/libmsgframe/libmsgframe/Utf8PutBeyondAsciiPinLaw", "cont", "(I)Z"⟩ : MethodName)) hown (mvT hZ (hw _ (List.mem_of_getElem? (i := 11) rfl))) (mvT hZ (hw _ (List.mem_of_getElem? (i := 12) rfl))) (mvT hZ (hw _ (List.mem_of_getElem? (i := 9) rfl))) (mvT hZ (hw _ (List.mem_of_getElem? (i := 13) rfl))) (by decide) (backOf (W := 0) (own_mcont l Z a0 hw [] r3 T88.heap n0 Z89) hZ (hw _ (List.mem_of_getElem? (i := 13) rfl)) (hw _ (List.mem_of_getElem? (i := 9) rfl)) (by decide) (by decide)) (g := (mkF m 444 #[.val (.int va), .val (.int vb), .val (.int vs_), .val (.int vc), .val (.int vo), .val (.int vf), .val (.ref b53), .val (.int ((((vo + (1 : Int32)) + (1 : Int32)) + (1 : Int32)) + (1 : Int32))), .val (.int (4 : Int32)), .val (.int r0), .val (.int r1), .val (.int r2), .val (.int r3)] [(.int r3)])) rfl (by rw [hml]; rfl) (argsL := [(.int r3)]) (rest := []) (lenOf own_pd2 rfl) rfl (by show 2 * 0 + _ ≤ _; exact Nat.le_of_eq rfl) (hb hby at_444) (fun _ _ => ⟨rfl, e152, (by decide : 1 + 0 ≤ _), (by decide : 8 + 0 ≤ _)⟩)
      dsimp only [Pt.U, Pt.locs, Pt.cells, Pt.slots] at X154 l154 y154 z154 st154 hQ154
      subst l154 y154 z154
      obtain ⟨rfl, N154q, e154⟩ := hQ154
      have N154 := Fr.app Nh153 N154q
      obtain ⟨Lh155, Xh155, Nh155⟩ := own_hide X154 N154
      refine OGo.on st154 ?_
      show OGo p e below s _ _ _ (T154.setTop (mkF m 447 #[.val (.int va), .val (.int vb), .val (.int vs_), .val (.int vc), .val (.int vo), .val (.int vf), .val (.ref b53), .val (.int ((((vo + (1 : Int32)) + (1 : Int32)) + (1 : Int32)) + (1 : Int32))), .val (.int (4 : Int32)), .val (.int r0), .val (.int r1), .val (.int r2), .val (.int r3)] [(.int (own_cont r3))]))
      refine OGo.on (fun t k => XS.ifNo Xh155.here hx rfl (hb hby at_447) rfl ((if0 _ _).trans (feq (own_cont1 e3 (by omega))).1) k) ?_
      show OGo p e below s _ _ _ (T154.setTop (mkF m 450 #[.val (.int va), .val (.int vb), .val (.int vs_), .val (.int vc), .val (.int vo), .val (.int vf), .val (.ref b53), .val (.int ((((vo + (1 : Int32)) + (1 : Int32)) + (1 : Int32)) + (1 : Int32))), .val (.int (4 : Int32)), .val (.int r0), .val (.int r1), .val (.int r2), .val (.int r3)] []))
      refine OGo.on (fun t k => XS.iload Xh155.here hx rfl (hb hby at_450) rfl k) ?_
      show OGo p e below s _ _ _ (T154.setTop (mkF m 452 #[.val (.int va), .val (.int vb), .val (.int vs_), .val (.int vc), .val (.int vo), .val (.int vf), .val (.ref b53), .val (.int ((((vo + (1 : Int32)) + (1 : Int32)) + (1 : Int32)) + (1 : Int32))), .val (.int (4 : Int32)), .val (.int r0), .val (.int r1), .val (.int r2), .val (.int r3)] [(.int r0)]))
      refine OGo.on (fun t k => XS.bipush Xh155.here hx rfl (hb hby at_452) k) ?_
      show OGo p e below s _ _ _ (T154.setTop (mkF m 454 #[.val (.int va), .val (.int vb), .val (.int vs_), .val (.int vc), .val (.int vo), .val (.int vf), .val (.ref b53), .val (.int ((((vo + (1 : Int32)) + (1 : Int32)) + (1 : Int32)) + (1 : Int32))), .val (.int (4 : Int32)), .val (.int r0), .val (.int r1), .val (.int r2), .val (.int r3)] [(.int (7 : Int32)), (.int r0)]))
      refine OGo.on (fun t k => XS.iand Xh155.here hx rfl (hb hby at_454) rfl k) ?_
      show OGo p e below s _ _ _ (T154.setTop (mkF m 455 #[.val (.int va), .val (.int vb), .val (.int vs_), .val (.int vc), .val (.int vo), .val (.int vf), .val (.ref b53), .val (.int ((((vo + (1 : Int32)) + (1 : Int32)) + (1 : Int32)) + (1 : Int32))), .val (.int (4 : Int32)), .val (.int r0), .val (.int r1), .val (.int r2), .val (.int r3)] [(.int (r0 &&& (7 : Int32)))]))
      refine OGo.on (fun t k => XS.bipush Xh155.here hx rfl (hb hby at_455) k) ?_
      show OGo p e below s _ _ _ (T154.setTop (mkF m 457 #[.val (.int va), .val (.int vb), .val (.int vs_), .val (.int vc), .val (.int vo), .val (.int vf), .val (.ref b53), .val (.int ((((vo + (1 : Int32)) + (1 : Int32)) + (1 : Int32)) + (1 : Int32))), .val (.int (4 : Int32)), .val (.int r0), .val (.int r1), .val (.int r2), .val (.int r3)] [(.int (18 : Int32)), (.int (r0 &&& (7 : Int32)))]))
      refine OGo.on (fun t k => XS.ishl Xh155.here hx rfl (hb hby at_457) rfl k) ?_
      show OGo p e below s _ _ _ (T154.setTop (mkF m 458 #[.val (.int va), .val (.int vb), .val (.int vs_), .val (.int vc), .val (.int vo), .val (.int vf), .val (.ref b53), .val (.int ((((vo + (1 : Int32)) + (1 : Int32)) + (1 : Int32)) + (1 : Int32))), .val (.int (4 : Int32)), .val (.int r0), .val (.int r1), .val (.int r2), .val (.int r3)] [(.int ((r0 &&& (7 : Int32)) <<< ((18 : Int32) &&& 31)))]))
      refine OGo.on (fun t k => XS.iload Xh155.here hx rfl (hb hby at_458) rfl k) ?_
      show OGo p e below s _ _ _ (T154.setTop (mkF m 460 #[.val (.int va), .val (.int vb), .val (.int vs_), .val (.int vc), .val (.int vo), .val (.int vf), .val (.ref b53), .val (.int ((((vo + (1 : Int32)) + (1 : Int32)) + (1 : Int32)) + (1 : Int32))), .val (.int (4 : Int32)), .val (.int r0), .val (.int r1), .val (.int r2), .val (.int r3)] [(.int r1), (.int ((r0 &&& (7 : Int32)) <<< ((18 : Int32) &&& 31)))]))
      refine OGo.on (fun t k => XS.bipush Xh155.here hx rfl (hb hby at_460) k) ?_
      show OGo p e below s _ _ _ (T154.setTop (mkF m 462 #[.val (.int va), .val (.int vb), .val (.int vs_), .val (.int vc), .val (.int vo), .val (.int vf), .val (.ref b53), .val (.int ((((vo + (1 : Int32)) + (1 : Int32)) + (1 : Int32)) + (1 : Int32))), .val (.int (4 : Int32)), .val (.int r0), .val (.int r1), .val (.int r2), .val (.int r3)] [(.int (63 : Int32)), (.int r1), (.int ((r0 &&& (7 : Int32)) <<< ((18 : Int32) &&& 31)))]))
      refine OGo.on (fun t k => XS.iand Xh155.here hx rfl (hb hby at_462) rfl k) ?_
      show OGo p e below s _ _ _ (T154.setTop (mkF m 463 #[.val (.int va), .val (.int vb), .val (.int vs_), .val (.int vc), .val (.int vo), .val (.int vf), .val (.ref b53), .val (.int ((((vo + (1 : Int32)) + (1 : Int32)) + (1 : Int32)) + (1 : Int32))), .val (.int (4 : Int32)), .val (.int r0), .val (.int r1), .val (.int r2), .val (.int r3)] [(.int (r1 &&& (63 : Int32))), (.int ((r0 &&& (7 : Int32)) <<< ((18 : Int32) &&& 31)))]))
      refine OGo.on (fun t k => XS.bipush Xh155.here hx rfl (hb hby at_463) k) ?_
      show OGo p e below s _ _ _ (T154.setTop (mkF m 465 #[.val (.int va), .val (.int vb), .val (.int vs_), .val (.int vc), .val (.int vo), .val (.int vf), .val (.ref b53), .val (.int ((((vo + (1 : Int32)) + (1 : Int32)) + (1 : Int32)) + (1 : Int32))), .val (.int (4 : Int32)), .val (.int r0), .val (.int r1), .val (.int r2), .val (.int r3)] [(.int (12 : Int32)), (.int (r1 &&& (63 : Int32))), (.int ((r0 &&& (7 : Int32)) <<< ((18 : Int32) &&& 31)))]))
      refine OGo.on (fun t k => XS.ishl Xh155.here hx rfl (hb hby at_465) rfl k) ?_
      show OGo p e below s _ _ _ (T154.setTop (mkF m 466 #[.val (.int va), .val (.int vb), .val (.int vs_), .val (.int vc), .val (.int vo), .val (.int vf), .val (.ref b53), .val (.int ((((vo + (1 : Int32)) + (1 : Int32)) + (1 : Int32)) + (1 : Int32))), .val (.int (4 : Int32)), .val (.int r0), .val (.int r1), .val (.int r2), .val (.int r3)] [(.int ((r1 &&& (63 : Int32)) <<< ((12 : Int32) &&& 31))), (.int ((r0 &&& (7 : Int32)) <<< ((18 : Int32) &&& 31)))]))
      refine OGo.on (fun t k => XS.ior Xh155.here hx rfl (hb hby at_466) rfl k) ?_
      show OGo p e below s _ _ _ (T154.setTop (mkF m 467 #[.val (.int va), .val (.int vb), .val (.int vs_), .val (.int vc), .val (.int vo), .val (.int vf), .val (.ref b53), .val (.int ((((vo + (1 : Int32)) + (1 : Int32)) + (1 : Int32)) + (1 : Int32))), .val (.int (4 : Int32)), .val (.int r0), .val (.int r1), .val (.int r2), .val (.int r3)] [(.int (((r0 &&& (7 : Int32)) <<< ((18 : Int32) &&& 31)) ||| ((r1 &&& (63 : Int32)) <<< ((12 : Int32) &&& 31))))]))
      refine OGo.on (fun t k => XS.iload Xh155.here hx rfl (hb hby at_467) rfl k) ?_
      show OGo p e below s _ _ _ (T154.setTop (mkF m 469 #[.val (.int va), .val (.int vb), .val (.int vs_), .val (.int vc), .val (.int vo), .val (.int vf), .val (.ref b53), .val (.int ((((vo + (1 : Int32)) + (1 : Int32)) + (1 : Int32)) + (1 : Int32))), .val (.int (4 : Int32)), .val (.int r0), .val (.int r1), .val (.int r2), .val (.int r3)] [(.int r2), (.int (((r0 &&& (7 : Int32)) <<< ((18 : Int32) &&& 31)) ||| ((r1 &&& (63 : Int32)) <<< ((12 : Int32) &&& 31))))]))
      refine OGo.on (fun t k => XS.bipush Xh155.here hx rfl (hb hby at_469) k) ?_
      show OGo p e below s _ _ _ (T154.setTop (mkF m 471 #[.val (.int va), .val (.int vb), .val (.int vs_), .val (.int vc), .val (.int vo), .val (.int vf), .val (.ref b53), .val (.int ((((vo + (1 : Int32)) + (1 : Int32)) + (1 : Int32)) + (1 : Int32))), .val (.int (4 : Int32)), .val (.int r0), .val (.int r1), .val (.int r2), .val (.int r3)] [(.int (63 : Int32)), (.int r2), (.int (((r0 &&& (7 : Int32)) <<< ((18 : Int32) &&& 31)) ||| ((r1 &&& (63 : Int32)) <<< ((12 : Int32) &&& 31))))]))
      refine OGo.on (fun t k => XS.iand Xh155.here hx rfl (hb hby at_471) rfl k) ?_
      show OGo p e below s _ _ _ (T154.setTop (mkF m 472 #[.val (.int va), .val (.int vb), .val (.int vs_), .val (.int vc), .val (.int vo), .val (.int vf), .val (.ref b53), .val (.int ((((vo + (1 : Int32)) + (1 : Int32)) + (1 : Int32)) + (1 : Int32))), .val (.int (4 : Int32)), .val (.int r0), .val (.int r1), .val (.int r2), .val (.int r3)] [(.int (r2 &&& (63 : Int32))), (.int (((r0 &&& (7 : Int32)) <<< ((18 : Int32) &&& 31)) ||| ((r1 &&& (63 : Int32)) <<< ((12 : Int32) &&& 31))))]))
      refine OGo.on (fun t k => XS.bipush Xh155.here hx rfl (hb hby at_472) k) ?_
      show OGo p e below s _ _ _ (T154.setTop (mkF m 474 #[.val (.int va), .val (.int vb), .val (.int vs_), .val (.int vc), .val (.int vo), .val (.int vf), .val (.ref b53), .val (.int ((((vo + (1 : Int32)) + (1 : Int32)) + (1 : Int32)) + (1 : Int32))), .val (.int (4 : Int32)), .val (.int r0), .val (.int r1), .val (.int r2), .val (.int r3)] [(.int (6 : Int32)), (.int (r2 &&& (63 : Int32))), (.int (((r0 &&& (7 : Int32)) <<< ((18 : Int32) &&& 31)) ||| ((r1 &&& (63 : Int32)) <<< ((12 : Int32) &&& 31))))]))
      refine OGo.on (fun t k => XS.ishl Xh155.here hx rfl (hb hby at_474) rfl k) ?_
      show OGo p e below s _ _ _ (T154.setTop (mkF m 475 #[.val (.int va), .val (.int vb), .val (.int vs_), .val (.int vc), .val (.int vo), .val (.int vf), .val (.ref b53), .val (.int ((((vo + (1 : Int32)) + (1 : Int32)) + (1 : Int32)) + (1 : Int32))), .val (.int (4 : Int32)), .val (.int r0), .val (.int r1), .val (.int r2), .val (.int r3)] [(.int ((r2 &&& (63 : Int32)) <<< ((6 : Int32) &&& 31))), (.int (((r0 &&& (7 : Int32)) <<< ((18 : Int32) &&& 31)) ||| ((r1 &&& (63 : Int32)) <<< ((12 : Int32) &&& 31))))]))
      refine OGo.on (fun t k => XS.ior Xh155.here hx rfl (hb hby at_475) rfl k) ?_
      show OGo p e below s _ _ _ (T154.setTop (mkF m 476 #[.val (.int va), .val (.int vb), .val (.int vs_), .val (.int vc), .val (.int vo), .val (.int vf), .val (.ref b53), .val (.int ((((vo + (1 : Int32)) + (1 : Int32)) + (1 : Int32)) + (1 : Int32))), .val (.int (4 : Int32)), .val (.int r0), .val (.int r1), .val (.int r2), .val (.int r3)] [(.int ((((r0 &&& (7 : Int32)) <<< ((18 : Int32) &&& 31)) ||| ((r1 &&& (63 : Int32)) <<< ((12 : Int32) &&& 31))) ||| ((r2 &&& (63 : Int32)) <<< ((6 : Int32) &&& 31))))]))
      refine OGo.on (fun t k => XS.iload Xh155.here hx rfl (hb hby at_476) rfl k) ?_
      show OGo p e below s _ _ _ (T154.setTop (mkF m 478 #[.val (.int va), .val (.int vb), .val (.int vs_), .val (.int vc), .val (.int vo), .val (.int vf), .val (.ref b53), .val (.int ((((vo + (1 : Int32)) + (1 : Int32)) + (1 : Int32)) + (1 : Int32))), .val (.int (4 : Int32)), .val (.int r0), .val (.int r1), .val (.int r2), .val (.int r3)] [(.int r3), (.int ((((r0 &&& (7 : Int32)) <<< ((18 : Int32) &&& 31)) ||| ((r1 &&& (63 : Int32)) <<< ((12 : Int32) &&& 31))) ||| ((r2 &&& (63 : Int32)) <<< ((6 : Int32) &&& 31))))]))
      refine OGo.on (fun t k => XS.bipush Xh155.here hx rfl (hb hby at_478) k) ?_
      show OGo p e below s _ _ _ (T154.setTop (mkF m 480 #[.val (.int va), .val (.int vb), .val (.int vs_), .val (.int vc), .val (.int vo), .val (.int vf), .val (.ref b53), .val (.int ((((vo + (1 : Int32)) + (1 : Int32)) + (1 : Int32)) + (1 : Int32))), .val (.int (4 : Int32)), .val (.int r0), .val (.int r1), .val (.int r2), .val (.int r3)] [(.int (63 : Int32)), (.int r3), (.int ((((r0 &&& (7 : Int32)) <<< ((18 : Int32) &&& 31)) ||| ((r1 &&& (63 : Int32)) <<< ((12 : Int32) &&& 31))) ||| ((r2 &&& (63 : Int32)) <<< ((6 : Int32) &&& 31))))]))
      refine OGo.on (fun t k => XS.iand Xh155.here hx rfl (hb hby at_480) rfl k) ?_
      show OGo p e below s _ _ _ (T154.setTop (mkF m 481 #[.val (.int va), .val (.int vb), .val (.int vs_), .val (.int vc), .val (.int vo), .val (.int vf), .val (.ref b53), .val (.int ((((vo + (1 : Int32)) + (1 : Int32)) + (1 : Int32)) + (1 : Int32))), .val (.int (4 : Int32)), .val (.int r0), .val (.int r1), .val (.int r2), .val (.int r3)] [(.int (r3 &&& (63 : Int32))), (.int ((((r0 &&& (7 : Int32)) <<< ((18 : Int32) &&& 31)) ||| ((r1 &&& (63 : Int32)) <<< ((12 : Int32) &&& 31))) ||| ((r2 &&& (63 : Int32)) <<< ((6 : Int32) &&& 31))))]))
      refine OGo.on (fun t k => XS.ior Xh155.here hx rfl (hb hby at_481) rfl k) ?_
      show OGo p e below s _ _ _ (T154.setTop (mkF m 482 #[.val (.int va), .val (.int vb), .val (.int vs_), .val (.int vc), .val (.int vo), .val (.int vf), .val (.ref b53), .val (.int ((((vo + (1 : Int32)) + (1 : Int32)) + (1 : Int32)) + (1 : Int32))), .val (.int (4 : Int32)), .val (.int r0), .val (.int r1), .val (.int r2), .val (.int r3)] [(.int (((((r0 &&& (7 : Int32)) <<< ((18 : Int32) &&& 31)) ||| ((r1 &&& (63 : Int32)) <<< ((12 : Int32) &&& 31))) ||| ((r2 &&& (63 : Int32)) <<< ((6 : Int32) &&& 31))) ||| (r3 &&& (63 : Int32))))]))
      refine OGo.on (fun t k => XS.iloadN Xh155.here hx rfl (hb hby at_482) rfl k) ?_
      show OGo p e below s _ _ _ (T154.setTop (mkF m 483 #[.val (.int va), .val (.int vb), .val (.int vs_), .val (.int vc), .val (.int vo), .val (.int vf), .val (.ref b53), .val (.int ((((vo + (1 : Int32)) + (1 : Int32)) + (1 : Int32)) + (1 : Int32))), .val (.int (4 : Int32)), .val (.int r0), .val (.int r1), .val (.int r2), .val (.int r3)] [(.int vc), (.int (((((r0 &&& (7 : Int32)) <<< ((18 : Int32) &&& 31)) ||| ((r1 &&& (63 : Int32)) <<< ((12 : Int32) &&& 31))) ||| ((r2 &&& (63 : Int32)) <<< ((6 : Int32) &&& 31))) ||| (r3 &&& (63 : Int32))))]))
      refine OGo.on (fun t k => XS.icmpNo Xh155.here hx rfl (hb hby at_483) rfl (teq (own_a4 (own_hd4 e0 (by omega)).2 (own_low e1 (by omega)) (own_low e2 (by omega)) (own_low e3 (by omega)) (by omega))).2 k) ?_
      show OGo p e below s _ _ _ (T154.setTop (mkF m 486 #[.val (.int va), .val (.int vb), .val (.int vs_), .val (.int vc), .val (.int vo), .val (.int vf), .val (.ref b53), .val (.int ((((vo + (1 : Int32)) + (1 : Int32)) + (1 : Int32)) + (1 : Int32))), .val (.int (4 : Int32)), .val (.int r0), .val (.int r1), .val (.int r2), .val (.int r3)] []))
      refine OGo.on (fun t k => XS.iconst Xh155.here hx rfl (hb hby at_486) k) ?_
      show OGo p e below s _ _ _ (T154.setTop (mkF m 487 #[.val (.int va), .val (.int vb), .val (.int vs_), .val (.int vc), .val (.int vo), .val (.int vf), .val (.ref b53), .val (.int ((((vo + (1 : Int32)) + (1 : Int32)) + (1 : Int32)) + (1 : Int32))), .val (.int (4 : Int32)), .val (.int r0), .val (.int r1), .val (.int r2), .val (.int r3)] [(.int (1 : Int32))]))
      refine OGo.on (fun t k => XS.goto Xh155.here hx rfl (pc0 := 487) (pc' := 491) rfl (hb hby at_487) (by decide) (by decide) k) ?_
      show OGo p e below s _ _ _ (T154.setTop (mkF m 491 #[.val (.int va), .val (.int vb), .val (.int vs_), .val (.int vc), .val (.int vo), .val (.int vf), .val (.ref b53), .val (.int ((((vo + (1 : Int32)) + (1 : Int32)) + (1 : Int32)) + (1 : Int32))), .val (.int (4 : Int32)), .val (.int r0), .val (.int r1), .val (.int r2), .val (.int r3)] [(.int (1 : Int32))]))
      exact OGo.retN Xh155 hx (t := .boolean) hret hlk (by simp) (hb hby at_491) ⟨rfl, Nh155⟩ (by decide) (by decide)
set_option maxRecDepth 65536 in
set_option maxHeartbeats 40000000 in
theorem comes_1 {Post : Tables → Env → Array Value → State → Outcome → State → Prop} (hpost : ∀ tb e args s v u, (limb_1_1.after args s (.returned v) u = true ∧ limb_1_2.after args s (.returned v) u = true ∧ True) → FrameEnd s (.returned v) u (Jvm.fieldLocs frame_1_writes args s ++ Jvm.arrayLocs frame_1_arrays args s ++ Jvm.staticLocs frame_1_statics s) 16 128 → Post tb e args s (.returned v) u) :
    ArmFor flags0 classFile x code maxLocals ret World_1 tables_1 room_1 Calls_1 rest_1 Pre_1 Post := by
  intro l hfl _ _ p e ha hc hk s m args below hf hA hF happ hP
  obtain ⟨hcalls, hrest, hpre⟩ := hP
  obtain ⟨-, -, -, hnamed, -, -, -, hat⟩ := (Spec.applies_iff hf).mp happ
  obtain ⟨hg, hn⟩ := and_e (Cond.before_iff.mp (show (Jvm.Cond.and given_1 narrow_1).before args s = true from hpre))
  obtain ⟨gg156, gg157⟩ := and_e hg
  obtain ⟨gg158, gg159⟩ := and_e gg157
  obtain ⟨gg160, gg161⟩ := and_e gg159
  obtain ⟨w0, w1, w2, rfl⟩ : ∃ w0 w1 w2 : Value, args = #[w0, w1, w2] := by
    have hs : args.size = 3 := by simpa [Cond.value, given_1] using gg156
    obtain ⟨L⟩ := args
    match L, hs with
    | [w0, w1, w2], _ => exact ⟨w0, w1, w2, rfl⟩
  have hw := fun d (hd : d ∈ tables_1) => atoms_spec (ws := Jvm.Cond.code x code maxLocals ret :: tables_1) hat d (List.mem_cons_of_mem _ hd)
  obtain ⟨i0, ei0⟩ := is_v gg158
  obtain rfl : w0 = (.int i0) := Option.some.inj ei0
  obtain ⟨i1, ei1⟩ := is_v gg160
  obtain rfl : w1 = (.int i1) := Option.some.inj ei1
  obtain ⟨i2, ei2⟩ := is_v gg161
  obtain rfl : w2 = (.int i2) := Option.some.inj ei2
  obtain ⟨n, o, h1, h2, h3, _, L, rfl, ⟨rfl, N⟩, hq⟩ := own_law l s _ hw tables_1 i0 i1 i2 s.heap s.heap.size (Nat.le_refl _)  p e ha hc hk s m _ below hf ((Spec.applies_iff_loose hf).mp happ).1 ⟨rfl, State.Warmed39.refl s, rfl⟩ trivial
  refine ⟨n, _, h1, h2, h3, hpost _ _ _ _ _ _ ⟨Cond.after_iff.mpr rfl, Cond.after_iff.mpr (eq_i res_at (Term.int_eval (1)) rfl), trivial⟩ ⟨hq.1, hq.2.1, (hq.2.2.sift fun y hy => Or.inr (N y hy)).mono (by decide) (by decide)⟩⟩
theorem main_1_1 : Claimed_1_1 := comes_1 fun _ _ _ _ _ _ h hF => ⟨h.1, hF⟩
theorem main_1_2 : Claimed_1_2 := comes_1 fun _ _ _ _ _ _ h hF => ⟨h.2.1, hF⟩
end Jvm.Pilot.@@N@@
namespace Jvm.Pilot.@@N@@
open Jvm Jvm.ClassFile Sem Op Lib Jvm.Free Jvm.Stand Jvm.Pilot.@@N@@.Jvm.D
/-! MADE BY PROGRAM (witnessworld.py) out of the Statement's table words and the real class files: 9 classes; the members and pool entries that the words name. The judged class is class 1, her method 3. -/
namespace start1
open Jvm.ClassFile
def u (s : String) : CpInfo := .utf8 (stringToUtf16 s)
/-- a pool by its gaps: so many unusable entries, then the entry; so many at the end -/
def gap : Nat → List CpInfo → List CpInfo
  | 0, r => r
  | n + 1, r => .unusable :: gap n r
def poolList (es : List (Nat × CpInfo)) (last : Nat) : List CpInfo := es.foldr (fun e r => gap e.1 (e.2 :: r)) (gap last [])
def pool (es : List (Nat × CpInfo)) (last : Nat) : Array CpInfo := ⟨poolList es last⟩
def fileOf (pool : Array CpInfo) (this : Nat) (attrs : Array Attribute := #[]) (ms : Array MethodInfo := #[]) (fl : Nat := 33) (sup : Nat := 0) (ifs : Array Nat := #[]) (fds : Array FieldInfo := #[]) : ClassFile where
  minorVersion := 0
  majorVersion := 65
  constantPool := pool
  accessFlags := fl
  thisClass := this
  superClass := sup
  interfaces := ifs
  fields := fds
  methods := ms
  attributes := attrs
def plain (name : String) (sup : Option ClassId) : Class where
  name := name
  kind := .ordinary
  loader := none
  accessFlags := 33
  super := sup
  interfaces := #[]
  cf := none
  fields := #[]
  methods := #[]
  instanceTypes := #[]
  staticTypes := #[]
  resolved := #[]
  callSites := []
  init := .initialized
  statics := none
  mirror := none

def pool0 : Array CpInfo := pool [(5, u "<init>"), (0, u "()V"), (1, .class_ 10), (1, u "java/lang/Object")] 113

def k0m0 : Method := { name := "<init>", desc := "()V", sig := { parameters := [], returnType := none }, accessFlags := 1, code := none }
/-- java/lang/Object -/
def k0 : Class := { plain "java/lang/Object" none with
  accessFlags := 33
  interfaces := #[]
  cf := some (fileOf pool0 8 #[] #[{ accessFlags := 1, nameIndex := 5, descriptorIndex := 6, attributes := #[] }] 33 0 #[] #[])
  fields := #[]
  methods := #[k0m0]
  instanceTypes := #[]
  staticTypes := #[]
  resolved := Array.replicate 124 none
  statics := none }

def pool1 : Array CpInfo := pool [(2, .class_ 4), (1, u "java/lang/Object"), (0, u "<init>"), (0, u "()V"), (0, .integer 2147483647), (0, .integer 1113984), (0, .methodref 10 11), (0, .class_ 12), (0, .nameAndType 13 14), (0, u "com/example/libmsgframe/libmsgframe/Utf8"), (0, u "putBeyondAscii"), (0, u "(I[BI)I"), (0, .integer 65536), (0, .methodref 17 18), (0, .class_ 19), (0, .nameAndType 20 21), (0, u "com/example/libmsgframe/libmsgframe/Utf8PutBeyondAsciiPinLaw"), (0, u "kept"), (0, u "([BIIIB)Z"), (0, .methodref 17 23), (0, .nameAndType 24 25), (0, u "cont"), (0, u "(I)Z"), (3, u "law"), (0, u "(III)Z")] 4

def k1m0 : Method := { name := "<init>", desc := "()V", sig := { parameters := [], returnType := none }, accessFlags := 2, code := none }
def k1c1 : Code := { maxStack := 2, maxLocals := 5, code := method_2_code, exceptionTable := #[], attributes := #[] }
def k1m1 : Method := { name := "kept", desc := "([BIIIB)Z", sig := { parameters := [(.array .byte), .int, .int, .int, .byte], returnType := some .boolean }, accessFlags := 10, code := some k1c1 }
def k1c2 : Code := { maxStack := 2, maxLocals := 1, code := method_3_code, exceptionTable := #[], attributes := #[] }
def k1m2 : Method := { name := "cont", desc := "(I)Z", sig := { parameters := [.int], returnType := some .boolean }, accessFlags := 10, code := some k1c2 }
def k1c3 : Code := { maxStack := 5, maxLocals := 13, code := code, exceptionTable := #[], attributes := #[] }
def k1m3 : Method := { name := "law", desc := "(III)Z", sig := { parameters := [.int, .int, .int], returnType := some .boolean }, accessFlags := 9, code := some k1c3 }
/-- com/example/libmsgframe/libmsgframe/Utf8PutBeyondAsciiPinLaw -/
def k1 : Class := { plain "com/example/libmsgframe/libmsgframe/Utf8PutBeyondAsciiPinLaw" (some 0) with
  accessFlags := 49
  interfaces := #[]
  cf := some (fileOf pool1 17 #[] #[{ accessFlags := 2, nameIndex := 5, descriptorIndex := 6, attributes := #[] }, { accessFlags := 10, nameIndex := 20, descriptorIndex := 21, attributes := #[] }, { accessFlags := 10, nameIndex := 24, descriptorIndex := 25, attributes := #[] }, { accessFlags := 9, nameIndex := 29, descriptorIndex := 30, attributes := #[] }] 49 2 #[] #[])
  fields := #[]
  methods := #[k1m0, k1m1, k1m2, k1m3]
  instanceTypes := #[]
  staticTypes := #[]
  resolved := Array.replicate 35 none
  statics := none }

def pool2 : Array CpInfo := pool [(4, .class_ 6), (1, u "java/lang/Object"), (0, u "<init>"), (0, u "()V"), (29, .class_ 40), (1, u "com/example/libmsgframe/libmsgframe/Utf8"), (77, .integer 65536), (30, .class_ 151), (1, u "com/example/libmsgframe/libmsgframe/Utf8$Pieces"), (4, u "putBeyondAscii"), (0, u "(I[BI)I"), (8, u "MOST_WIDE_TEXT"), (0, u "I"), (1, u "PIECE_SIZE")] 43

def k2m0 : Method := { name := "<init>", desc := "()V", sig := { parameters := [], returnType := none }, accessFlags := 2, code := none }
def k2c1 : Code := { maxStack := 5, maxLocals := 4, code := prog_10_method_12_code, exceptionTable := #[], attributes := #[] }
def k2m1 : Method := { name := "putBeyondAscii", desc := "(I[BI)I", sig := { parameters := [.int, (.array .byte), .int], returnType := some .int }, accessFlags := 9, code := some k2c1 }
/-- com/example/libmsgframe/libmsgframe/Utf8 -/
def k2 : Class := { plain "com/example/libmsgframe/libmsgframe/Utf8" (some 0) with
  accessFlags := 49
  interfaces := #[]
  cf := some (fileOf pool2 38 #[.nestMembers #[149]] #[{ accessFlags := 2, nameIndex := 7, descriptorIndex := 8, attributes := #[] }, { accessFlags := 9, nameIndex := 156, descriptorIndex := 157, attributes := #[] }] 49 4 #[] #[{ accessFlags := 26, nameIndex := 166, descriptorIndex := 167, attributes := #[] }, { accessFlags := 26, nameIndex := 169, descriptorIndex := 167, attributes := #[] }])
  fields := #[{ name := "MOST_WIDE_TEXT", type := .int, accessFlags := 26, slot := 0, constantValue := 0 }, { name := "PIECE_SIZE", type := .int, accessFlags := 26, slot := 1, constantValue := 0 }]
  methods := #[k2m0, k2m1]
  instanceTypes := #[]
  staticTypes := #[.int, .int]
  resolved := Array.replicate 213 none
  statics := none }

def pool3 : Array CpInfo := pool [(1, u "java/lang/Cloneable"), (0, .class_ 1), (0, u "java/lang/Object"), (0, .class_ 3)] 3

/-- java/lang/Cloneable -/
def k3 : Class := { plain "java/lang/Cloneable" (some 0) with
  accessFlags := 1537
  interfaces := #[]
  cf := some (fileOf pool3 2 #[] #[] 1537 4 #[] #[])
  fields := #[]
  methods := #[]
  instanceTypes := #[]
  staticTypes := #[]
  resolved := Array.replicate 8 none
  statics := none }

def pool4 : Array CpInfo := pool [(1, u "java/io/Serializable"), (0, .class_ 1), (0, u "java/lang/Object"), (0, .class_ 3)] 3

/-- java/io/Serializable -/
def k4 : Class := { plain "java/io/Serializable" (some 0) with
  accessFlags := 1537
  interfaces := #[]
  cf := some (fileOf pool4 2 #[] #[] 1537 4 #[] #[])
  fields := #[]
  methods := #[]
  instanceTypes := #[]
  staticTypes := #[]
  resolved := Array.replicate 8 none
  statics := none }

/-- the primitive byte -/
def k5 : Class := { plain "byte" none with kind := .primitive 'B', accessFlags := 0x411 }
/-- [B -/
def k6 : Class := { plain "[B" (some 0) with kind := .array 5 .byte, interfaces := #[3, 4], accessFlags := 1041 }

/-- the primitive int -/
def k7 : Class := { plain "int" none with kind := .primitive 'I', accessFlags := 0x411 }
/-- [I -/
def k8 : Class := { plain "[I" (some 0) with kind := .array 7 .int, interfaces := #[3, 4], accessFlags := 1041 }

def heap : Heap := #[]
def classes : Array Class := #[k0, k1, k2, k3, k4, k5, k6, k7, k8]
def interned : List (Array UInt16 × Addr) := []
def slotsUsed : Nat := 0
def theMethod : MethodId := ⟨1, 3⟩
def args0 : Array Value := #[.int 5, .int 3, .int 4]
def aboutOver (below : List Frame) : State where
  vm := { classes := classes, interned := interned.toArray }
  heap := heap
  slotsUsed := slotsUsed
  threads := #[{ frames := .invoking theMethod args0 :: below }]
def below0 : List Frame := [.native { method := ⟨0, 0⟩, args := #[] }]
def about1 : State := aboutOver below0
def p0 : Program := .bare "" "" ""
def e0 : Env := launch0.env 0 0 0
theorem w_frames : about1.frames = Frame.invoking theMethod args0 :: below0 := rfl
set_option maxRecDepth 65536 in
theorem w_args : argsFit about1.vm theMethod args0 = true := by decide +kernel
set_option maxRecDepth 65536 in
theorem w_heap : heapFits about1 = true := by decide +kernel
set_option maxRecDepth 65536 in
theorem w_runnable : about1.curStatus? = some .runnable := by decide +kernel
set_option maxRecDepth 65536 in
theorem w_alone : about1.alone = true := by decide +kernel
set_option maxRecDepth 65536 in
theorem w_named : about1.methodNamed? x = some theMethod := by decide +kernel
set_option maxRecDepth 65536 in
theorem w_hears : about1.hears theMethod below0 = true := by decide +kernel
set_option maxRecDepth 65536 in
theorem w_ripe : about1.ripe theMethod args0 below0 = true := by decide +kernel
theorem w_running : about1.status = .running := rfl
set_option maxRecDepth 65536 in
theorem w_room : about1.hasRoom e0.platform room_1 = true :=
  launch0.hasRoom_least _ room_1 (by decide +kernel) (by decide +kernel) (by decide +kernel) (by decide +kernel) (by decide +kernel) (by decide +kernel)
theorem allAtoms_all (ts : List Jvm.Cond) (a : Array Jvm.Value) (st : Jvm.State) : (allAtoms ts).before a st = ts.all (fun c => c.before a st) := by
  induction ts with
  | nil => rfl
  | cons c t ih =>
    show (Jvm.Cond.and c (allAtoms t)).before a st = _
    rw [Jvm.Cond.before_and, ih, List.all_cons]
def words1 : List Jvm.Cond := Jvm.Cond.code x code maxLocals ret :: tables_1
/-- a 'code' word, met by the world's own term for the bytes: nothing is compared byte by byte -/
theorem code_word {y : MethodName} {bytes : ByteArray} {mx : Nat} {rt : Option FieldType} {a : Array Value} {s : State} {m : MethodId} {meth : Method} {c : Code} (h1 : s.methodNamed? y = some m) (h2 : s.vm.method? m = some meth) (h3 : meth.code = some c) (h4 : c.code = bytes)
    (h5 : (c.maxLocals == mx && c.exceptionTable.isEmpty && decide (c.maxStack ≤ mostOperands) && decide (meth.sig.returnType = rt) && !meth.locks && decide (parseMethodDescriptor y.desc = some meth.sig)) = true) : (Jvm.Cond.code y bytes mx rt).before a s = true := by
  simp only [Bool.and_eq_true, beq_iff_eq, Bool.not_eq_true', decide_eq_true_eq] at h5
  obtain ⟨⟨⟨⟨⟨g1, g2⟩, g3⟩, g4⟩, g5⟩, g6⟩ := h5
  simp [Cond.before, Cond.holds, Cond.value, h1, h2, h3, h4, g1, g2, g3, g4, g5, g6]
def isCode : Jvm.Cond → Bool
  | .code _ _ _ _ => true
  | _ => false
theorem all_split {L : List Jvm.Cond} {P : Jvm.Cond → Bool} (h1 : L.all (fun c => isCode c || P c) = true) (h2 : ∀ c ∈ L.filter isCode, P c = true) : L.all P = true := by
  refine List.all_eq_true.mpr fun c hc => ?_
  have h := List.all_eq_true.mp h1 c hc
  rcases Bool.eq_false_or_eq_true (isCode c) with hi | hi
  · exact h2 c (List.mem_filter.mpr ⟨hc, hi⟩)
  · simpa [hi] using h
set_option maxRecDepth 65536 in
theorem w_c0 : (Jvm.Cond.code x code maxLocals ret).before args0 about1 = true := code_word (m := ⟨1, 3⟩) (meth := k1m3) (c := k1c3) (by decide +kernel) rfl rfl rfl (by decide +kernel)
set_option maxRecDepth 65536 in
theorem w_c1 : (Jvm.Cond.code ({ cls := "com/example/libmsgframe/libmsgframe/Utf8", name := "putBeyondAscii", desc := "(I[BI)I" } : Jvm.MethodName) prog_10_method_12_code (4 : Nat) (Option.some Jvm.ClassFile.FieldType.int)).before args0 about1 = true := code_word (m := ⟨2, 1⟩) (meth := k2m1) (c := k2c1) (by decide +kernel) rfl rfl rfl (by decide +kernel)
set_option maxRecDepth 65536 in
theorem w_c2 : (Jvm.Cond.code ({ cls := "com/example/libmsgframe/libmsgframe/Utf8PutBeyondAsciiPinLaw", name := "kept", desc := "([BIIIB)Z" } : Jvm.MethodName) method_2_code (5 : Nat) (Option.some Jvm.ClassFile.FieldType.boolean)).before args0 about1 = true := code_word (m := ⟨1, 1⟩) (meth := k1m1) (c := k1c1) (by decide +kernel) rfl rfl rfl (by decide +kernel)
set_option maxRecDepth 65536 in
theorem w_c3 : (Jvm.Cond.code ({ cls := "com/example/libmsgframe/libmsgframe/Utf8PutBeyondAsciiPinLaw", name := "cont", desc := "(I)Z" } : Jvm.MethodName) method_3_code (1 : Nat) (Option.some Jvm.ClassFile.FieldType.boolean)).before args0 about1 = true := code_word (m := ⟨1, 2⟩) (meth := k1m2) (c := k1c2) (by decide +kernel) rfl rfl rfl (by decide +kernel)
def codes1 : List Jvm.Cond := [Jvm.Cond.code x code maxLocals ret, Jvm.Cond.code ({ cls := "com/example/libmsgframe/libmsgframe/Utf8", name := "putBeyondAscii", desc := "(I[BI)I" } : Jvm.MethodName) prog_10_method_12_code (4 : Nat) (Option.some Jvm.ClassFile.FieldType.int), Jvm.Cond.code ({ cls := "com/example/libmsgframe/libmsgframe/Utf8PutBeyondAsciiPinLaw", name := "kept", desc := "([BIIIB)Z" } : Jvm.MethodName) method_2_code (5 : Nat) (Option.some Jvm.ClassFile.FieldType.boolean), Jvm.Cond.code ({ cls := "com/example/libmsgframe/libmsgframe/Utf8PutBeyondAsciiPinLaw", name := "cont", desc := "(I)Z" } : Jvm.MethodName) method_3_code (1 : Nat) (Option.some Jvm.ClassFile.FieldType.boolean)]
set_option maxRecDepth 65536 in
theorem codes_eq : words1.filter isCode = codes1 := rfl
theorem w_codes : ∀ c ∈ words1.filter isCode, c.before args0 about1 = true := by
  rw [codes_eq]
  intro c hc
  simp only [codes1, List.mem_cons, List.not_mem_nil, or_false] at hc
  rcases hc with rfl | rfl | rfl | rfl
  · exact w_c0
  · exact w_c1
  · exact w_c2
  · exact w_c3
set_option maxRecDepth 65536 in
theorem w_t1 : words1.all (fun c => isCode c || c.before args0 about1) = true := by decide +kernel
theorem w_tables : (allAtoms (Jvm.Cond.code x code maxLocals ret :: tables_1)).before args0 about1 = true := by
  rw [allAtoms_all]
  show words1.all (fun c => c.before args0 about1) = true
  refine all_split ?_ w_codes
  rw [w_t1]
set_option maxRecDepth 65536 in
theorem w_case : (Jvm.Cond.and given_1 narrow_1).before args0 about1 = true := by decide +kernel
theorem w_applies : (headSpec (Jvm.Cond.code x code maxLocals ret :: tables_1) room_1).applies x e0.platform about1 = true :=
  (Spec.applies_iff w_frames).mpr ⟨w_running, w_runnable, w_alone, w_named, w_hears, w_ripe, w_room, w_tables⟩
theorem atStart : AtStart classFile x code maxLocals ret World_1 tables_1 room_1 Calls_1 rest_1 Pre_1 launch0 p0 e0 about1 theMethod args0 below0 :=
  ⟨lists_1, trivial, launch0.admits_env _ _ _, launch0.least_env, fairChoices_fair.cas, fairChoices_fair.clock, w_frames, w_args, w_heap, w_applies, trivial, trivial, w_case⟩
end start1
theorem witness_1 : WitnessClaimed_1 := ⟨start1.p0, start1.e0, start1.about1, start1.theMethod, start1.args0, start1.below0, start1.atStart⟩
end Jvm.Pilot.@@N@@
