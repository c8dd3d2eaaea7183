import JvmDerived
import JvmDerived.Pilot.@@N@@Statement
import JvmDerived.Pilot.@@N@@Code
set_option linter.unusedVariables false
set_option linter.unusedSimpArgs false
@@BLOCK:NumsL.lean.txt@@
namespace Jvm.RoadKit
open Sem ClassFile Op Lib Jvm.Stand Jvm.Free Jvm.LawKit
section Own
variable {p : Program} {l : Launch} {e : Env} {R : Room} {s : State} {m : MethodId} {args : Array Value} {below : List Frame} {meth : Method} {c : Code} {T : State} {locs : List Loc} {cells slots : Nat} {Z : State} {h h' : Heap} {Q : Option Value → Heap → List Loc → Prop} {kc ks : Nat}
/-- from the state S the run comes to an end of which Q holds -/
def OGo (p : Program) (e : Env) (below : List Frame) (s : State) (Q : Option Value → Heap → List Loc → Prop) (kc ks : Nat) (S : State) : Prop :=
  ∃ s₂ o, Steps p.tables e below S s₂ ∧ s₂.status = .running ∧ Ended s₂ below o ∧ ∃ v L, o = .returned v ∧ Q v s₂.heap L ∧ FrameEnd s o s₂ L kc ks
theorem OGo.on {C N : State} (st : ∀ t, Steps p.tables e below N t → Steps p.tables e below C t) (h : OGo p e below s Q kc ks N) : OGo p e below s Q kc ks C := by
  obtain ⟨s₂, o, h1, h2⟩ := h
  exact ⟨s₂, o, st _ h1, h2⟩
theorem OGo.fin (X : Stand p l e R s m args below meth c T locs cells slots) {v : Option Value} (hv : meth.sig.returnType = none → v = none) (hlocks : meth.locks = false) {C : State}
    (st : ∀ fs, (∀ (f : JFrame) (acts : List Action), f.method = m → f.locked = none → f.entered = [] → (doReturn e (T.setTop f) acts v).1 = T.setFrames fs) → Steps p.tables e below C (T.setFrames fs)) (hq : Q v T.heap locs) (hc : cells ≤ kc) (hs : slots ≤ ks) : OGo p e below s Q kc ks C := by
  obtain ⟨fs, hr, hrun, hended, hW, hsame⟩ := X.leave hv hlocks
  exact ⟨_, _, st fs hr, hrun, hended, v, locs, rfl, hq, ⟨_, rfl⟩, hW, hsame.mono hc hs⟩
theorem OGo.retN (X : Stand p l e R s m args below meth c T locs cells slots) (hx : p.tables.exec = Jvm.exec) {pc : Nat} {Ls : Array Slot} {z : Int32} {t : FieldType} {rest : List Value} (hret : meth.sig.returnType = some t) (hlocks : meth.locks = false) (ht : t = .boolean ∨ t = .byte ∨ t = .char ∨ t = .short)
    (hd : decode c.code pc = .ok (.ireturn, 1)) (hq : Q (some (.int (nar t z))) T.heap locs) (hc : cells ≤ kc) (hs : slots ≤ ks) : OGo p e below s Q kc ks (T.setTop (mkF m pc Ls (.int z :: rest))) :=
  OGo.fin X (fun h => by rw [hret] at h; cases h) hlocks (fun fs hr => Jvm.RoadKit.retN X hx hret ht hd hr) hq hc hs
theorem OGo.retI (X : Stand p l e R s m args below meth c T locs cells slots) (hx : p.tables.exec = Jvm.exec) {pc : Nat} {Ls : Array Slot} {z : Int32} {rest : List Value} (hret : meth.sig.returnType = some .int) (hlocks : meth.locks = false)
    (hd : decode c.code pc = .ok (.ireturn, 1)) (hq : Q (some (.int z)) T.heap locs) (hc : cells ≤ kc) (hs : slots ≤ ks) : OGo p e below s Q kc ks (T.setTop (mkF m pc Ls (.int z :: rest))) :=
  OGo.fin X (fun h => by rw [hret] at h; cases h) hlocks (fun fs hr => retOut X hx hret rfl (Or.inl ⟨rfl, Or.inl rfl, _, rfl⟩) hd hr) hq hc hs
theorem OGo.retJ (X : Stand p l e R s m args below meth c T locs cells slots) (hx : p.tables.exec = Jvm.exec) {pc : Nat} {Ls : Array Slot} {z : Int64} {rest : List Value} (hret : meth.sig.returnType = some .long) (hlocks : meth.locks = false)
    (hd : decode c.code pc = .ok (.lreturn, 1)) (hq : Q (some (.long z)) T.heap locs) (hc : cells ≤ kc) (hs : slots ≤ ks) : OGo p e below s Q kc ks (T.setTop (mkF m pc Ls (.long z :: rest))) :=
  OGo.fin X (fun h => by rw [hret] at h; cases h) hlocks (fun fs hr => retOut X hx hret rfl (Or.inr (Or.inl ⟨rfl, rfl, _, rfl⟩)) hd hr) hq hc hs
theorem OGo.retA (X : Stand p l e R s m args below meth c T locs cells slots) (hx : p.tables.exec = Jvm.exec) {pc : Nat} {Ls : Array Slot} {a : Addr} {t : FieldType} {rest : List Value} (hret : meth.sig.returnType = some t) (ht : t.isReference = true) (hn : narrow t (.ref a) = .ref a) (hlocks : meth.locks = false)
    (hd : decode c.code pc = .ok (.areturn, 1)) (hq : Q (some (.ref a)) T.heap locs) (hc : cells ≤ kc) (hs : slots ≤ ks) : OGo p e below s Q kc ks (T.setTop (mkF m pc Ls (.ref a :: rest))) :=
  OGo.fin X (fun h => by rw [hret] at h; cases h) hlocks (fun fs hr => retOut X hx hret hn (Or.inr (Or.inr (Or.inr (Or.inr ⟨rfl, ht, rfl⟩)))) hd hr) hq hc hs
theorem OGo.ret0 (X : Stand p l e R s m args below meth c T locs cells slots) (hx : p.tables.exec = Jvm.exec) {pc : Nat} {Ls : Array Slot} (hret : meth.sig.returnType = none) (hlocks : meth.locks = false)
    (hd : decode c.code pc = .ok (.return_, 1)) (hq : Q none T.heap locs) (hc : cells ≤ kc) (hs : slots ≤ ks) : OGo p e below s Q kc ks (T.setTop (mkF m pc Ls [])) :=
  OGo.fin X (fun _ => rfl) hlocks (fun fs hr => X.returnOut hx hret hd hr) hq hc hs
/-- the places written so far, without their names -/
theorem own_hide {k : Nat} (X : Stand p l e R s m args below meth c T locs cells slots) (N : Fr k locs) : ∃ L, Stand p l e R s m args below meth c T L cells slots ∧ Fr k L := ⟨_, X, N⟩
/-- what a body that writes nothing leaves -/
def OPure (n0 : Nat) (h0 : Heap) (r : Option Value) (v : Option Value) (h : Heap) (L : List Loc) : Prop := v = r ∧ Fr n0 L ∧ h = h0
theorem opI {n0 : Nat} {h0 : Heap} {x y : Int32} {L : List Loc} (q : x = y) (N : Fr n0 L) (E : h = h0) : OPure n0 h0 (some (.int y)) (some (.int x)) h L := ⟨by rw [q], N, E⟩
theorem opJ {n0 : Nat} {h0 : Heap} {x y : Int64} {L : List Loc} (q : x = y) (N : Fr n0 L) (E : h = h0) : OPure n0 h0 (some (.long y)) (some (.long x)) h L := ⟨by rw [q], N, E⟩
theorem own_nz1 : nar .boolean 1 = 1 := rfl
theorem own_nz0 : nar .boolean 0 = 0 := rfl
theorem own_irem {C : State} {x y : Int32} {g : JFrame} (X : Stand p l e R s m args below meth c T locs cells slots) (hx : p.tables.exec = Jvm.exec) (hg : g.method = m) {rest : List Value} (hd : decode c.code g.pc = .ok (.irem, 1)) (hs : g.stack = .int y :: .int x :: rest) (hy : y ≠ 0) :
    ∀ t, Steps p.tables e below (T.setTop { g with pc := g.pc + 1, stack := .int (x % y) :: rest }) t → Steps p.tables e below (T.setTop g) t := fun t k => iremM X hx hg hd hs hy k
/-! lcmp and the branch behind it -/
theorem own_lc (cd : ClassFile.Cond) (a b : Int64) : ifCond.holds cd (lcmpW a b) = (match cd with | .eq => decide (a = b) | .ne => !decide (a = b) | .lt => decide (a < b) | .ge => !decide (a < b) | .gt => decide (b < a) | .le => !decide (b < a)) := by
  have h1 : a = b ↔ a.toInt = b.toInt := (Int64.toInt_inj).symm
  by_cases g : a > b
  · have g' : b.toInt < a.toInt := Int64.lt_iff_toInt_lt.mp g
    have e1 : lcmpW a b = 1 := if_pos g
    have e2 : ¬ a = b := fun q => by rw [h1] at q; omega
    have e3 : ¬ a < b := fun q => by rw [Int64.lt_iff_toInt_lt] at q; omega
    have e4 : b < a := g
    rw [e1]; cases cd <;> simp [e2, e3, e4] <;> decide
  · by_cases q : a = b
    · have e1 : lcmpW a b = 0 := by rw [lcmpW, if_neg g, if_pos q]
      subst q
      have e3 : ¬ a < a := fun q => by rw [Int64.lt_iff_toInt_lt] at q; omega
      rw [e1]; cases cd <;> simp [e3] <;> decide
    · have e1 : lcmpW a b = -1 := by rw [lcmpW, if_neg g, if_neg q]
      have g1 : ¬ b < a := g
      have g2 : a < b := by rw [Int64.lt_iff_toInt_lt] at g1 ⊢; rw [h1] at q; omega
      rw [e1]; cases cd <;> simp [q, g1, g2] <;> decide
theorem lc_tlt {a b : Int64} (h : a < b) : ifCond.holds .lt (lcmpW a b) = true ∧ ifCond.holds .ge (lcmpW a b) = false ∧ ifCond.holds .gt (lcmpW b a) = true ∧ ifCond.holds .le (lcmpW b a) = false := by simp only [own_lc]; simp [h]
theorem lc_flt {a b : Int64} (h : ¬ a < b) : ifCond.holds .lt (lcmpW a b) = false ∧ ifCond.holds .ge (lcmpW a b) = true ∧ ifCond.holds .gt (lcmpW b a) = false ∧ ifCond.holds .le (lcmpW b a) = true := by simp only [own_lc]; simp [h]
theorem lc_teq {a b : Int64} (h : a = b) : ifCond.holds .eq (lcmpW a b) = true ∧ ifCond.holds .ne (lcmpW a b) = false := by simp only [own_lc]; simp [h]
theorem lc_feq {a b : Int64} (h : ¬ a = b) : ifCond.holds .eq (lcmpW a b) = false ∧ ifCond.holds .ne (lcmpW a b) = true := by simp only [own_lc]; simp [h]
theorem own_nm0 {a : Addr} : a ∉ ([] : List Addr) := fun q => nomatch q
theorem own_nm1 {a b : Addr} (h : a ≠ b) : a ∉ [b] := fun q => h (List.mem_singleton.mp q)
theorem own_nm2 {a b d : Addr} (h : a ≠ b) (h' : a ≠ d) : a ∉ [b, d] := fun q => (List.mem_cons.mp q).elim h fun q => h' (List.mem_singleton.mp q)
theorem own_nm3 {a b d f : Addr} (h : a ≠ b) (h' : a ≠ d) (h'' : a ≠ f) : a ∉ [b, d, f] := fun q => (List.mem_cons.mp q).elim h fun q => (own_nm2 h' h'') q
/-! arrays of numbers, known whole -/
/-- the array at a holds just the ints vs -/
def OAL (Z : State) (h : Heap) (a : Addr) (ty : FieldType) (vs : List Int32) : Prop := ∃ c : Cell, Arr Z h a c ty ∧ c.slots = (vs.map Value.int).toArray
/-- the array at a holds just the longs vs -/
def OAJ (Z : State) (h : Heap) (a : Addr) (vs : List Int64) : Prop := ∃ c : Cell, Arr Z h a c .long ∧ c.slots = (vs.map Value.long).toArray
/-- the place j lies inside and holds v -/
def OAt {α : Type} (vs : List α) (j : Int32) (v : α) : Prop := ¬ j < 0 ∧ vs[j.toNatClampNeg]? = some v
variable {a b : Addr} {ty : FieldType} {vs : List Int32} {us : List Int64} {ws : List Addr} {sl : Nat} {w : Value}
theorem OAL.lt (A : OAL Z h a ty vs) : a < h.size := by obtain ⟨c, A, -⟩ := A; exact A.lt
theorem OAJ.lt (A : OAJ Z h a us) : a < h.size := by obtain ⟨c, A, -⟩ := A; exact A.lt
theorem OAL.ext (A : OAL Z h a ty vs) (E : Ext h h') : OAL Z h' a ty vs := by obtain ⟨c, A, r⟩ := A; exact ⟨c, A.ext E, r⟩
theorem OAJ.ext (A : OAJ Z h a us) (E : Ext h h') : OAJ Z h' a us := by obtain ⟨c, A, r⟩ := A; exact ⟨c, A.ext E, r⟩
theorem OAL.keep (A : OAL Z h a ty vs) (K : Keep h h' ws) (q : a ∉ ws) : OAL Z h' a ty vs := by obtain ⟨c, A, r⟩ := A; exact ⟨c, ⟨K.2.1 a c A.1 q, A.2⟩, r⟩
theorem OAJ.keep (A : OAJ Z h a us) (K : Keep h h' ws) (q : a ∉ ws) : OAJ Z h' a us := by obtain ⟨c, A, r⟩ := A; exact ⟨c, ⟨K.2.1 a c A.1 q, A.2⟩, r⟩
theorem OAL.other (A : OAL Z h b ty vs) (W : Wr h h' a sl w) (q : b ≠ a) : OAL Z h' b ty vs := by obtain ⟨c, A, r⟩ := A; exact ⟨c, A.other W q, r⟩
theorem OAJ.other (A : OAJ Z h b us) (W : Wr h h' a sl w) (q : b ≠ a) : OAJ Z h' b us := by obtain ⟨c, A, r⟩ := A; exact ⟨c, A.other W q, r⟩
theorem own_slots (cl : Cell) (i : Nat) (v : Value) : (cl.setSlot i v).slots = cl.slots.setIfInBounds i v := rfl
theorem OAL.same (A : OAL Z h a ty vs) {i : Nat} {x : Int32} (W : Wr h h' a i (.int x)) : OAL Z h' a ty (vs.set i x) := by
  obtain ⟨c, A, r⟩ := A
  exact ⟨_, A.same W, by rw [own_slots, r]; simp [List.map_set]⟩
theorem OAJ.same (A : OAJ Z h a us) {i : Nat} {x : Int64} (W : Wr h h' a i (.long x)) : OAJ Z h' a (us.set i x) := by
  obtain ⟨c, A, r⟩ := A
  exact ⟨_, A.same W, by rw [own_slots, r]; simp [List.map_set]⟩
theorem OAL.new {cA : ClassId} {n : Int32} (A : Arr Z h a (newA cA ty n) ty) (q : defaultValue ty = .int 0) : OAL Z h a ty (List.replicate n.toNatClampNeg 0) := ⟨_, A, by
  show Array.replicate n.toNatClampNeg (defaultValue ty) = _
  rw [q]; simp⟩
theorem OAJ.new {cA : ClassId} {n : Int32} (A : Arr Z h a (newA cA .long n) .long) : OAJ Z h a (List.replicate n.toNatClampNeg 0) := ⟨_, A, by
  show Array.replicate n.toNatClampNeg (Value.long 0) = _
  simp⟩
theorem own_in {α : Type} {vs : List α} {f : α → Value} {j : Int32} {v : α} {cl : Cell} (r : cl.slots = (vs.map f).toArray) (q : OAt vs j v) : ¬ (j < 0 ∨ cl.slots.size ≤ j.toNatClampNeg) ∧ cl.slots[j.toNatClampNeg]? = some (f v) := by
  obtain ⟨q1, q2⟩ := q
  have hl := (List.getElem?_eq_some_iff.mp q2).1
  rw [r]
  refine ⟨fun z => z.elim q1 fun y => ?_, ?_⟩
  · simp at y; omega
  · simp [q2]
theorem OAL.baB (X : Stand p l e R s m args below meth c T locs cells slots) (hx : p.tables.exec = Jvm.exec) (hZ : Z.Warmed39 s.vm) (eT : T.heap = h) (A : OAL Z h a .byte vs) {j v : Int32} (q : OAt vs j v) {pc : Nat} {Ls : Array Slot} {rest : List Value} (hd : decode c.code pc = .ok (.baload, 1)) {t : State}
    (k : Steps p.tables e below (T.setTop (mkF m (pc + 1) Ls (.int v :: rest))) t) : Steps p.tables e below (T.setTop (mkF m pc Ls (.int j :: .ref a :: rest))) t := by
  obtain ⟨cl, A, r⟩ := A
  exact X.baloadBytes hx (j := j) (v := .int v) (by rw [eT]; exact A.1) (State.isArrayOf_alike hZ.alike A.2.1) A.2.2 (own_in r q).1 (own_in r q).2 (g := mkF m pc Ls (.int j :: .ref a :: rest)) rfl rfl hd _ k
theorem OAL.baZ (X : Stand p l e R s m args below meth c T locs cells slots) (hx : p.tables.exec = Jvm.exec) (hZ : Z.Warmed39 s.vm) (eT : T.heap = h) (A : OAL Z h a .boolean vs) {j v : Int32} (q : OAt vs j v) {pc : Nat} {Ls : Array Slot} {rest : List Value} (hd : decode c.code pc = .ok (.baload, 1)) {t : State}
    (k : Steps p.tables e below (T.setTop (mkF m (pc + 1) Ls (.int v :: rest))) t) : Steps p.tables e below (T.setTop (mkF m pc Ls (.int j :: .ref a :: rest))) t := by
  obtain ⟨cl, A, r⟩ := A
  exact X.baloadBooleans hx (j := j) (v := .int v) (by rw [eT]; exact A.1) (State.isArrayOf_alike hZ.alike A.2.1) A.2.2 (own_in r q).1 (own_in r q).2 (g := mkF m pc Ls (.int j :: .ref a :: rest)) rfl rfl hd _ k
theorem OAL.ia (X : Stand p l e R s m args below meth c T locs cells slots) (hx : p.tables.exec = Jvm.exec) (hZ : Z.Warmed39 s.vm) (eT : T.heap = h) (A : OAL Z h a .int vs) {j v : Int32} (q : OAt vs j v) {pc : Nat} {Ls : Array Slot} {rest : List Value} (hd : decode c.code pc = .ok (.iaload, 1)) {t : State}
    (k : Steps p.tables e below (T.setTop (mkF m (pc + 1) Ls (.int v :: rest))) t) : Steps p.tables e below (T.setTop (mkF m pc Ls (.int j :: .ref a :: rest))) t := by
  obtain ⟨cl, A, r⟩ := A
  exact X.iaload hx (j := j) (v := .int v) (by rw [eT]; exact A.1) (State.isArrayOf_alike hZ.alike A.2.1) A.2.2 (own_in r q).1 (own_in r q).2 (g := mkF m pc Ls (.int j :: .ref a :: rest)) rfl rfl hd _ k
theorem OAJ.la (X : Stand p l e R s m args below meth c T locs cells slots) (hx : p.tables.exec = Jvm.exec) (hZ : Z.Warmed39 s.vm) (eT : T.heap = h) (A : OAJ Z h a us) {j : Int32} {v : Int64} (q : OAt us j v) {pc : Nat} {Ls : Array Slot} {rest : List Value} (hd : decode c.code pc = .ok (.laload, 1)) {t : State}
    (k : Steps p.tables e below (T.setTop (mkF m (pc + 1) Ls (.long v :: rest))) t) : Steps p.tables e below (T.setTop (mkF m pc Ls (.int j :: .ref a :: rest))) t := by
  obtain ⟨cl, A, r⟩ := A
  exact X.laload hx (j := j) (v := .long v) (by rw [eT]; exact A.1) (State.isArrayOf_alike hZ.alike A.2.1) A.2.2 (own_in r q).1 (own_in r q).2 (g := mkF m pc Ls (.int j :: .ref a :: rest)) rfl rfl hd _ k
theorem OAL.len (X : Stand p l e R s m args below meth c T locs cells slots) (hx : p.tables.exec = Jvm.exec) (hZ : Z.Warmed39 s.vm) (eT : T.heap = h) (A : OAL Z h a ty vs) {n : Int32} (q : vs.length.toInt32 = n) {pc : Nat} {Ls : Array Slot} {rest : List Value} (hd : decode c.code pc = .ok (.arraylength, 1)) {t : State}
    (k : Steps p.tables e below (T.setTop (mkF m (pc + 1) Ls (.int n :: rest))) t) : Steps p.tables e below (T.setTop (mkF m pc Ls (.ref a :: rest))) t := by
  obtain ⟨cl, A, r⟩ := A
  have z : cl.slots.size = vs.length := by rw [r]; simp
  exact X.arraylength hx (by rw [eT]; exact A.1) (State.isArrayOf_alike hZ.alike A.2.1) (g := mkF m pc Ls (.ref a :: rest)) rfl rfl hd _ (by rw [z, q]; exact k)
theorem OAJ.len (X : Stand p l e R s m args below meth c T locs cells slots) (hx : p.tables.exec = Jvm.exec) (hZ : Z.Warmed39 s.vm) (eT : T.heap = h) (A : OAJ Z h a us) {n : Int32} (q : us.length.toInt32 = n) {pc : Nat} {Ls : Array Slot} {rest : List Value} (hd : decode c.code pc = .ok (.arraylength, 1)) {t : State}
    (k : Steps p.tables e below (T.setTop (mkF m (pc + 1) Ls (.int n :: rest))) t) : Steps p.tables e below (T.setTop (mkF m pc Ls (.ref a :: rest))) t := by
  obtain ⟨cl, A, r⟩ := A
  have z : cl.slots.size = us.length := by rw [r]; simp
  exact X.arraylength hx (by rw [eT]; exact A.1) (State.isArrayOf_alike hZ.alike A.2.1) (g := mkF m pc Ls (.ref a :: rest)) rfl rfl hd _ (by rw [z, q]; exact k)
theorem own_into {α : Type} {vs : List α} {f : α → Value} {j : Int32} {cl : Cell} (r : cl.slots = (vs.map f).toArray) (q1 : ¬ j < 0) (q2 : j.toNatClampNeg < vs.length) : ¬ (j < 0 ∨ cl.slots.size ≤ j.toNatClampNeg) := by
  rw [r]
  exact fun z => z.elim q1 fun y => by simp at y; omega
theorem OAL.stB (X : Stand p l e R s m args below meth c T locs cells slots) (hx : p.tables.exec = Jvm.exec) (hZ : Z.Warmed39 s.vm) (eT : T.heap = h) (A : OAL Z h a .byte vs) {j x : Int32} (q1 : ¬ j < 0) (q2 : j.toNatClampNeg < vs.length) {pc : Nat} {Ls : Array Slot} {rest : List Value} (hd : decode c.code pc = .ok (.bastore, 1)) :
    ∃ T' h', Stand p l e R s m args below meth c T' (locs ++ [⟨a, j.toNatClampNeg⟩]) cells slots ∧ T'.heap = h' ∧ Wr h h' a j.toNatClampNeg (.int (nar .byte x)) ∧ OAL Z h' a .byte (vs.set j.toNatClampNeg (nar .byte x)) ∧ ∀ t, Steps p.tables e below (T'.setTop (mkF m (pc + 1) Ls rest)) t → Steps p.tables e below (T.setTop (mkF m pc Ls (.int x :: .int j :: .ref a :: rest))) t := by
  obtain ⟨cl, A', r⟩ := A
  obtain ⟨T', h', X', e', W', st⟩ := Jvm.RoadKit.stB X hx hZ eT A' (j := j) (x := x) (own_into r q1 q2) (g := mkF m pc Ls (.int x :: .int j :: .ref a :: rest)) rfl rfl hd
  exact ⟨T', h', X', e', W', OAL.same ⟨cl, A', r⟩ W', st⟩
theorem OAL.stZ (X : Stand p l e R s m args below meth c T locs cells slots) (hx : p.tables.exec = Jvm.exec) (hZ : Z.Warmed39 s.vm) (eT : T.heap = h) (A : OAL Z h a .boolean vs) {j x : Int32} (q1 : ¬ j < 0) (q2 : j.toNatClampNeg < vs.length) {pc : Nat} {Ls : Array Slot} {rest : List Value} (hd : decode c.code pc = .ok (.bastore, 1)) :
    ∃ T' h', Stand p l e R s m args below meth c T' (locs ++ [⟨a, j.toNatClampNeg⟩]) cells slots ∧ T'.heap = h' ∧ Wr h h' a j.toNatClampNeg (.int (nar .boolean x)) ∧ OAL Z h' a .boolean (vs.set j.toNatClampNeg (nar .boolean x)) ∧ ∀ t, Steps p.tables e below (T'.setTop (mkF m (pc + 1) Ls rest)) t → Steps p.tables e below (T.setTop (mkF m pc Ls (.int x :: .int j :: .ref a :: rest))) t := by
  obtain ⟨cl, A', r⟩ := A
  obtain ⟨T', h', X', e', W', st⟩ := Jvm.RoadKit.stZ X hx hZ eT A' (j := j) (x := x) (own_into r q1 q2) (g := mkF m pc Ls (.int x :: .int j :: .ref a :: rest)) rfl rfl hd
  exact ⟨T', h', X', e', W', OAL.same ⟨cl, A', r⟩ W', st⟩
theorem OAL.stI (X : Stand p l e R s m args below meth c T locs cells slots) (hx : p.tables.exec = Jvm.exec) (hZ : Z.Warmed39 s.vm) (eT : T.heap = h) (A : OAL Z h a .int vs) {j x : Int32} (q1 : ¬ j < 0) (q2 : j.toNatClampNeg < vs.length) {pc : Nat} {Ls : Array Slot} {rest : List Value} (hd : decode c.code pc = .ok (.iastore, 1)) :
    ∃ T' h', Stand p l e R s m args below meth c T' (locs ++ [⟨a, j.toNatClampNeg⟩]) cells slots ∧ T'.heap = h' ∧ Wr h h' a j.toNatClampNeg (.int x) ∧ OAL Z h' a .int (vs.set j.toNatClampNeg x) ∧ ∀ t, Steps p.tables e below (T'.setTop (mkF m (pc + 1) Ls rest)) t → Steps p.tables e below (T.setTop (mkF m pc Ls (.int x :: .int j :: .ref a :: rest))) t := by
  obtain ⟨cl, A', r⟩ := A
  obtain ⟨T', h', X', e', W', st⟩ := Jvm.RoadKit.stI X hx hZ eT A' (j := j) (x := x) (own_into r q1 q2) (g := mkF m pc Ls (.int x :: .int j :: .ref a :: rest)) rfl rfl hd
  exact ⟨T', h', X', e', W', OAL.same ⟨cl, A', r⟩ W', st⟩
theorem OAJ.stJ (X : Stand p l e R s m args below meth c T locs cells slots) (hx : p.tables.exec = Jvm.exec) (hZ : Z.Warmed39 s.vm) (eT : T.heap = h) (A : OAJ Z h a us) {j : Int32} {x : Int64} (q1 : ¬ j < 0) (q2 : j.toNatClampNeg < us.length) {pc : Nat} {Ls : Array Slot} {rest : List Value} (hd : decode c.code pc = .ok (.lastore, 1)) :
    ∃ T' h', Stand p l e R s m args below meth c T' (locs ++ [⟨a, j.toNatClampNeg⟩]) cells slots ∧ T'.heap = h' ∧ Wr h h' a j.toNatClampNeg (.long x) ∧ OAJ Z h' a (us.set j.toNatClampNeg x) ∧ ∀ t, Steps p.tables e below (T'.setTop (mkF m (pc + 1) Ls rest)) t → Steps p.tables e below (T.setTop (mkF m pc Ls (.long x :: .int j :: .ref a :: rest))) t := by
  obtain ⟨cl, A', r⟩ := A
  obtain ⟨T', h', X', e', W', st⟩ := Jvm.RoadKit.stJ X hx hZ eT A' (j := j) (x := x) (own_into r q1 q2) (g := mkF m pc Ls (.long x :: .int j :: .ref a :: rest)) rfl rfl hd
  exact ⟨T', h', X', e', W', OAJ.same ⟨cl, A', r⟩ W', st⟩
end Own
end Jvm.RoadKit
namespace Jvm.Pilot.@@N@@
open Jvm Jvm.ClassFile Sem Op Lib Jvm.Free Jvm.Stand Jvm.LawKit Jvm.RoadKit Bundle Jvm.Pilot.@@N@@.Jvm.D
theorem own_x {m : Nat} {P : Int32 → Prop} {o : Int32} (h : ∃ n : Fin m, o = Int32.ofNat n.val) (k : ∀ n : Fin m, P (Int32.ofNat n.val)) : P o := by obtain ⟨n, rfl⟩ := h; exact k n
theorem own_mod (a k : Int32) {m : Nat} (hk : k.toInt = m) (h0 : 0 < m) (h1 : m < 2 ^ 31) : ∃ n : Fin m, (a &&& 2147483647) % k = Int32.ofNat n.val := by
  have e : 0 ≤ (a &&& 2147483647).toInt := by
    rw [Jvm.Kit.i32_mask a 2147483647 (k := 31) (by decide) (by decide)]; exact Int.emod_nonneg _ (by decide)
  have e2 := Jvm.Kit.i32_rem_nonneg (x := a &&& 2147483647) (y := k) e
  rw [hk] at e2
  have m1 := Int.emod_nonneg (a &&& 2147483647).toInt (b := (m : Int)) (by omega)
  have m2 := Int.emod_lt_of_pos (a &&& 2147483647).toInt (b := (m : Int)) (by omega)
  refine ⟨⟨((a &&& 2147483647).toInt % m).toNat, by omega⟩, ?_⟩
  rw [← Int32.toInt_inj, e2, Int32.toInt_ofNat_of_lt (by show ((a &&& 2147483647).toInt % m).toNat < _; omega)]
  show _ = ((((a &&& 2147483647).toInt % m).toNat : Nat) : Int)
  omega
theorem own_modN (a k : Int32) {m : Nat} (hk : k.toInt = m) (h0 : 0 < m) (h1 : m < 2 ^ 31) : ∃ n : Nat, n < m ∧ (a &&& 2147483647) % k = Int32.ofNat n := by
  obtain ⟨n, q⟩ := own_mod a k hk h0 h1
  exact ⟨n.val, n.isLt, q⟩
/-- the k-th byte of v, as it is stored -/
def own_byt (v : Int64) (k : Nat) : Int32 := nar .byte (((v.toUInt64 >>> (((8 : Int32) * Int32.ofNat k) &&& 0x3f).toInt64.toUInt64).toInt64).toInt32.toInt8.toInt32)
def own_putN (vs : List Int32) (on : Nat) (v : Int64) : Nat → List Int32
  | 0 => vs
  | k + 1 => (own_putN vs on v k).set (Int32.ofNat on + Int32.ofNat k).toNatClampNeg (own_byt v k)
theorem own_lt {cn k : Nat} (hc : cn < 2 ^ 31) (hk : k < 2 ^ 31) : (Int32.ofNat k < Int32.ofNat cn) ↔ k < cn := by
  rw [Int32.lt_iff_toInt_lt, Int32.toInt_ofNat_of_lt hc, Int32.toInt_ofNat_of_lt hk]; omega
theorem own_idx {n : Nat} (h : n < 2 ^ 31) : ¬ Int32.ofNat n < 0 ∧ (Int32.ofNat n).toNatClampNeg = n := by
  have e := Int32.toInt_ofNat_of_lt h
  constructor
  · rw [Int32.lt_iff_toInt_lt, e]
    have k : (0 : Int32).toInt = 0 := by decide
    omega
  · show (Int32.ofNat n).toInt.toNat = n
    rw [e]; omega
theorem own_idx2 {n k : Nat} (h : n + k < 2 ^ 31) : ¬ Int32.ofNat n + Int32.ofNat k < 0 ∧ (Int32.ofNat n + Int32.ofNat k).toNatClampNeg = n + k := by
  rw [← Int32.ofNat_add]; exact own_idx h
theorem own_putN_len (vs : List Int32) (on : Nat) (v : Int64) (k : Nat) : (own_putN vs on v k).length = vs.length := by
  induction k with
  | zero => rfl
  | succ k ih => show ((own_putN vs on v k).set _ _).length = _; rw [List.length_set, ih]
theorem own_putN_get (vs : List Int32) (on : Nat) (v : Int64) (k j : Nat) (h : on + k ≤ vs.length) (hs : vs.length < 2 ^ 31) (hj : j < vs.length) : (own_putN vs on v k)[j]? = if on ≤ j ∧ j < on + k then some (own_byt v (j - on)) else vs[j]? := by
  induction k with
  | zero => rw [if_neg (by omega)]; rfl
  | succ k ih =>
    show ((own_putN vs on v k).set _ _)[j]? = _
    rw [List.getElem?_set, (own_idx2 (by omega)).2, own_putN_len, ih (by omega)]
    by_cases q : on + k = j
    · subst q
      rw [if_pos rfl, if_pos (by omega), if_pos (by omega)]
      congr 2; omega
    · rw [if_neg q]
      by_cases r : on ≤ j ∧ j < on + k
      · rw [if_pos r, if_pos (by omega)]
      · rw [if_neg r, if_neg (by omega)]
def own_el (on cn : Nat) (v : Int64) (f : Int32) (j : Nat) : Int32 := if on ≤ j ∧ j < on + cn then own_byt v (j - on) else f
theorem own_at (on cn : Nat) (v : Int64) (f : Int32) (j : Nat) (h1 : on < 5) (h2 : cn < 9) (hj : j < 12) : OAt (own_putN [f, f, f, f, f, f, f, f, f, f, f, f] on v cn) (Int32.ofNat j) (own_el on cn v f j) := by
  refine ⟨(own_idx (by omega)).1, ?_⟩
  have g := own_putN_get [f, f, f, f, f, f, f, f, f, f, f, f] on v cn j (by show on + cn ≤ 12; omega) (by show 12 < 2 ^ 31; decide) hj
  rw [(own_idx (by omega)).2, g]
  unfold own_el
  by_cases q : on ≤ j ∧ j < on + cn
  · rw [if_pos q, if_pos q]
  · rw [if_neg q, if_neg q]
    have k : ∀ j : Fin 12, [f, f, f, f, f, f, f, f, f, f, f, f][j.val]? = some f := by
      intro j
      match j with
      | 0 | 1 | 2 | 3 | 4 | 5 | 6 | 7 | 8 | 9 | 10 | 11 => rfl
    exact k ⟨j, hj⟩
def own_exp (j at' cnt : Int32) (v : Int64) (f : Int32) : Int32 := if ¬ j - at' < 0 ∧ j - at' < cnt then (((v >>> (((8 : Int32) * (j - at')) &&& 0x3f).toInt64) &&& 255).toInt32.toInt8.toInt32) else f
def own_ok (w j at' cnt : Int32) (v : Int64) (f : Int32) : Int32 := if w = own_exp j at' cnt v f then 1 else 0
theorem own_bb (v : Int64) (k : Nat) (hk : k < 8) : ((v >>> (((8 : Int32) * Int32.ofNat k) &&& 0x3f).toInt64) &&& 255).toInt32.toInt8.toInt32 = own_byt v k := by
  have e : nar .byte (((v.toUInt64 >>> (((8 : Int32) * Int32.ofNat k) &&& 0x3f).toInt64.toUInt64).toInt64).toInt32.toInt8.toInt32) = ((v.toUInt64 >>> (((8 : Int32) * Int32.ofNat k) &&& 0x3f).toInt64.toUInt64).toInt64).toInt32.toInt8.toInt32 := by
    show (((v.toUInt64 >>> (((8 : Int32) * Int32.ofNat k) &&& 0x3f).toInt64.toUInt64).toInt64).toInt32.toInt8.toInt32).toInt8.toInt32 = _
    rw [Int8.toInt8_toInt32]
  unfold own_byt
  rw [e]
  congr 1
  apply Int8.toBitVec_inj.mp
  have k1 : ∀ k : Fin 8, ((((8 : Int32) * Int32.ofNat k.val) &&& 0x3f).toInt64.toBitVec.smod 64).toNat = 8 * k.val := by decide +kernel
  have k2 : ∀ k : Fin 8, ((((8 : Int32) * Int32.ofNat k.val) &&& 0x3f).toInt64.toUInt64.toBitVec % 64#64).toNat = 8 * k.val := by decide +kernel
  have q1 := k1 ⟨k, hk⟩
  have q2 := k2 ⟨k, hk⟩
  dsimp only at q1 q2
  show (((v.toBitVec.sshiftRight' ((((8 : Int32) * Int32.ofNat k) &&& 0x3f).toInt64.toBitVec.smod 64)) &&& 255#64).signExtend 32).signExtend 8 = (((v.toBitVec >>> ((((8 : Int32) * Int32.ofNat k) &&& 0x3f).toInt64.toUInt64.toBitVec % 64#64))).signExtend 32).signExtend 8
  rw [BitVec.sshiftRight', q1, BitVec.ushiftRight_eq', q2]
  rw [BitVec.signExtend_eq_setWidth_of_le _ (by decide), BitVec.signExtend_eq_setWidth_of_le _ (by decide), BitVec.signExtend_eq_setWidth_of_le _ (by decide), BitVec.signExtend_eq_setWidth_of_le _ (by decide)]
  apply BitVec.eq_of_getLsbD_eq
  intro i hi
  rw [BitVec.getLsbD_setWidth, BitVec.getLsbD_setWidth, BitVec.getLsbD_setWidth, BitVec.getLsbD_setWidth, BitVec.getLsbD_and, BitVec.getLsbD_sshiftRight, BitVec.getLsbD_ushiftRight]
  have m : (255#64).getLsbD i = true := by
    have : ∀ i : Fin 8, (255#64).getLsbD i.val = true := by decide
    exact this ⟨i, hi⟩
  have a1 : ¬ 64 ≤ i := by omega
  have a2 : 8 * k + i < 64 := by omega
  simp [m, a1, a2]
theorem own_okk (on cn : Nat) (v : Int64) (f : Int32) (j : Nat) (h1 : on < 5) (h2 : cn < 9) (hj : j < 12) : own_ok (own_el on cn v f j) (Int32.ofNat j) (Int32.ofNat on) (Int32.ofNat cn) v f = 1 := by
  refine if_pos ?_
  have e1 : (Int32.ofNat j - Int32.ofNat on).toInt = (j : Int) - on := by
    have a := Int32.toInt_ofNat_of_lt (show j < 2 ^ 31 by omega)
    have b := Int32.toInt_ofNat_of_lt (show on < 2 ^ 31 by omega)
    rw [Jvm.Kit.i32_sub (by omega) (by omega), a, b]
  have e2 : (Int32.ofNat cn).toInt = (cn : Int) := Int32.toInt_ofNat_of_lt (by omega)
  have e3 : (0 : Int32).toInt = 0 := by decide
  unfold own_el own_exp
  by_cases q : on ≤ j ∧ j < on + cn
  · have q' : ¬ Int32.ofNat j - Int32.ofNat on < 0 ∧ Int32.ofNat j - Int32.ofNat on < Int32.ofNat cn := by
      rw [Int32.lt_iff_toInt_lt, Int32.lt_iff_toInt_lt, e1, e2, e3]; omega
    rw [if_pos q, if_pos q']
    have e4 : Int32.ofNat j - Int32.ofNat on = Int32.ofNat (j - on) := by
      rw [← Int32.toInt_inj, e1, Int32.toInt_ofNat_of_lt (by omega)]; omega
    rw [e4, own_bb v (j - on) (by omega)]
  · have q' : ¬ (¬ Int32.ofNat j - Int32.ofNat on < 0 ∧ Int32.ofNat j - Int32.ofNat on < Int32.ofNat cn) := by
      rw [Int32.lt_iff_toInt_lt, Int32.lt_iff_toInt_lt, e1, e2, e3]; omega
    rw [if_neg q, if_neg q']

theorem own_cn {cn k : Nat} (h1 : k = 0 ∨ Int32.ofNat (k - 1) < Int32.ofNat cn) (h2 : ¬ Int32.ofNat k < Int32.ofNat cn) (hc : cn < 9) (hk : k < 9) : cn = k := by
  have a := mt (own_lt (cn := cn) (k := k) (by omega) (by omega)).mpr h2
  rcases h1 with h1 | h1
  · omega
  · have b := (own_lt (cn := cn) (k := k - 1) (by omega) (by omega)).mp h1
    omega
theorem own_no8 {cn : Nat} (hc : cn < 9) : ¬ (8 : Int32) < Int32.ofNat cn := fun q => by
  have b := (own_lt (cn := cn) (k := 8) (by omega) (by omega)).mp q
  omega
theorem own_exp1 {j at' cnt : Int32} {v : Int64} {f : Int32} (h1 : ¬ j - at' < 0) (h2 : j - at' < cnt) : own_exp j at' cnt v f = (((v >>> (((8 : Int32) * (j - at')) &&& 0x3f).toInt64) &&& 255).toInt32.toInt8.toInt32) := if_pos ⟨h1, h2⟩
theorem own_exp2 {j at' cnt : Int32} {v : Int64} {f : Int32} (h1 : j - at' < 0) : own_exp j at' cnt v f = f := if_neg fun q => q.1 h1
theorem own_exp3 {j at' cnt : Int32} {v : Int64} {f : Int32} (h2 : ¬ j - at' < cnt) : own_exp j at' cnt v f = f := if_neg fun q => h2 q.2
theorem own_ok1 {w j at' cnt : Int32} {v : Int64} {f E : Int32} (e : own_exp j at' cnt v f = E) (h : w = E) : nar .boolean 1 = own_ok w j at' cnt v f := Eq.symm (if_pos (h.trans e.symm))
theorem own_ok0 {w j at' cnt : Int32} {v : Int64} {f E : Int32} (e : own_exp j at' cnt v f = E) (h : ¬ w = E) : nar .boolean 0 = own_ok w j at' cnt v f := Eq.symm (if_neg fun q => h (q.trans e))
theorem own_n0 {x : Int32} (h : x = 1) : ¬ x = 0 := by subst h; decide
theorem own_nf (s : Int32) : nar .byte (s.toInt8.toInt32) = s.toInt8.toInt32 := by
  show (s.toInt8.toInt32).toInt8.toInt32 = _
  rw [Int8.toInt8_toInt32]
theorem own_pS {vs L : List Int32} {on k : Nat} {v : Int64} {i b : Int32} (h : own_putN vs on v k = L) (hi : Int32.ofNat k = i) (hb : own_byt v k = b) : own_putN vs on v (k + 1) = L.set (Int32.ofNat on + i).toNatClampNeg b := by
  subst hi; subst hb; subst h; rfl
theorem own_by0 (vv : Int64) : own_byt vv 0 = (nar .byte (((vv.toUInt64 >>> ((0 : Int32) &&& 0x3f).toInt64.toUInt64).toInt64).toInt32.toInt8.toInt32)) := by
  unfold own_byt
  rw [show (8 : Int32) * Int32.ofNat 0 = 0 from by decide]
theorem own_by1 (vv : Int64) : own_byt vv 1 = (nar .byte (((vv.toUInt64 >>> ((8 : Int32) &&& 0x3f).toInt64.toUInt64).toInt64).toInt32.toInt8.toInt32)) := by
  unfold own_byt
  rw [show (8 : Int32) * Int32.ofNat 1 = 8 from by decide]
theorem own_by2 (vv : Int64) : own_byt vv 2 = (nar .byte (((vv.toUInt64 >>> ((16 : Int32) &&& 0x3f).toInt64.toUInt64).toInt64).toInt32.toInt8.toInt32)) := by
  unfold own_byt
  rw [show (8 : Int32) * Int32.ofNat 2 = 16 from by decide]
theorem own_by3 (vv : Int64) : own_byt vv 3 = (nar .byte (((vv.toUInt64 >>> ((24 : Int32) &&& 0x3f).toInt64.toUInt64).toInt64).toInt32.toInt8.toInt32)) := by
  unfold own_byt
  rw [show (8 : Int32) * Int32.ofNat 3 = 24 from by decide]
theorem own_by4 (vv : Int64) : own_byt vv 4 = (nar .byte (((vv.toUInt64 >>> ((32 : Int32) &&& 0x3f).toInt64.toUInt64).toInt64).toInt32.toInt8.toInt32)) := by
  unfold own_byt
  rw [show (8 : Int32) * Int32.ofNat 4 = 32 from by decide]
theorem own_by5 (vv : Int64) : own_byt vv 5 = (nar .byte (((vv.toUInt64 >>> ((40 : Int32) &&& 0x3f).toInt64.toUInt64).toInt64).toInt32.toInt8.toInt32)) := by
  unfold own_byt
  rw [show (8 : Int32) * Int32.ofNat 5 = 40 from by decide]
theorem own_by6 (vv : Int64) : own_byt vv 6 = (nar .byte (((vv.toUInt64 >>> ((48 : Int32) &&& 0x3f).toInt64.toUInt64).toInt64).toInt32.toInt8.toInt32)) := by
  unfold own_byt
  rw [show (8 : Int32) * Int32.ofNat 6 = 48 from by decide]
theorem own_by7 (vv : Int64) : own_byt vv 7 = (nar .byte (((vv.toUInt64 >>> ((56 : Int32) &&& 0x3f).toInt64.toUInt64).toInt64).toInt32.toInt8.toInt32)) := by
  unfold own_byt
  rw [show (8 : Int32) * Int32.ofNat 7 = 56 from by decide]
theorem own_pp0 (vs : List Int32) (on : Nat) (vv : Int64) : own_putN vs on vv 0 = vs := rfl
theorem own_pp1 (vs : List Int32) (on : Nat) (vv : Int64) : own_putN vs on vv 1 = (vs.set ((Int32.ofNat on) + (0 : Int32)).toNatClampNeg (nar .byte (((vv.toUInt64 >>> ((0 : Int32) &&& 0x3f).toInt64.toUInt64).toInt64).toInt32.toInt8.toInt32))) := own_pS (own_pp0 vs on vv) (by decide) (own_by0 vv)
theorem own_pp2 (vs : List Int32) (on : Nat) (vv : Int64) : own_putN vs on vv 2 = ((vs.set ((Int32.ofNat on) + (0 : Int32)).toNatClampNeg (nar .byte (((vv.toUInt64 >>> ((0 : Int32) &&& 0x3f).toInt64.toUInt64).toInt64).toInt32.toInt8.toInt32))).set ((Int32.ofNat on) + (1 : Int32)).toNatClampNeg (nar .byte (((vv.toUInt64 >>> ((8 : Int32) &&& 0x3f).toInt64.toUInt64).toInt64).toInt32.toInt8.toInt32))) := own_pS (own_pp1 vs on vv) (by decide) (own_by1 vv)
theorem own_pp3 (vs : List Int32) (on : Nat) (vv : Int64) : own_putN vs on vv 3 = (((vs.set ((Int32.ofNat on) + (0 : Int32)).toNatClampNeg (nar .byte (((vv.toUInt64 >>> ((0 : Int32) &&& 0x3f).toInt64.toUInt64).toInt64).toInt32.toInt8.toInt32))).set ((Int32.ofNat on) + (1 : Int32)).toNatClampNeg (nar .byte (((vv.toUInt64 >>> ((8 : Int32) &&& 0x3f).toInt64.toUInt64).toInt64).toInt32.toInt8.toInt32))).set ((Int32.ofNat on) + (2 : Int32)).toNatClampNeg (nar .byte (((vv.toUInt64 >>> ((16 : Int32) &&& 0x3f).toInt64.toUInt64).toInt64).toInt32.toInt8.toInt32))) := own_pS (own_pp2 vs on vv) (by decide) (own_by2 vv)
theorem own_pp4 (vs : List Int32) (on : Nat) (vv : Int64) : own_putN vs on vv 4 = ((((vs.set ((Int32.ofNat on) + (0 : Int32)).toNatClampNeg (nar .byte (((vv.toUInt64 >>> ((0 : Int32) &&& 0x3f).toInt64.toUInt64).toInt64).toInt32.toInt8.toInt32))).set ((Int32.ofNat on) + (1 : Int32)).toNatClampNeg (nar .byte (((vv.toUInt64 >>> ((8 : Int32) &&& 0x3f).toInt64.toUInt64).toInt64).toInt32.toInt8.toInt32))).set ((Int32.ofNat on) + (2 : Int32)).toNatClampNeg (nar .byte (((vv.toUInt64 >>> ((16 : Int32) &&& 0x3f).toInt64.toUInt64).toInt64).toInt32.toInt8.toInt32))).set ((Int32.ofNat on) + (3 : Int32)).toNatClampNeg (nar .byte (((vv.toUInt64 >>> ((24 : Int32) &&& 0x3f).toInt64.toUInt64).toInt64).toInt32.toInt8.toInt32))) := own_pS (own_pp3 vs on vv) (by decide) (own_by3 vv)
theorem own_pp5 (vs : List Int32) (on : Nat) (vv : Int64) : own_putN vs on vv 5 = (((((vs.set ((Int32.ofNat on) + (0 : Int32)).toNatClampNeg (nar .byte (((vv.toUInt64 >>> ((0 : Int32) &&& 0x3f).toInt64.toUInt64).toInt64).toInt32.toInt8.toInt32))).set ((Int32.ofNat on) + (1 : Int32)).toNatClampNeg (nar .byte (((vv.toUInt64 >>> ((8 : Int32) &&& 0x3f).toInt64.toUInt64).toInt64).toInt32.toInt8.toInt32))).set ((Int32.ofNat on) + (2 : Int32)).toNatClampNeg (nar .byte (((vv.toUInt64 >>> ((16 : Int32) &&& 0x3f).toInt64.toUInt64).toInt64).toInt32.toInt8.toInt32))).set ((Int32.ofNat on) + (3 : Int32)).toNatClampNeg (nar .byte (((vv.toUInt64 >>> ((24 : Int32) &&& 0x3f).toInt64.toUInt64).toInt64).toInt32.toInt8.toInt32))).set ((Int32.ofNat on) + (4 : Int32)).toNatClampNeg (nar .byte (((vv.toUInt64 >>> ((32 : Int32) &&& 0x3f).toInt64.toUInt64).toInt64).toInt32.toInt8.toInt32))) := own_pS (own_pp4 vs on vv) (by decide) (own_by4 vv)
theorem own_pp6 (vs : List Int32) (on : Nat) (vv : Int64) : own_putN vs on vv 6 = ((((((vs.set ((Int32.ofNat on) + (0 : Int32)).toNatClampNeg (nar .byte (((vv.toUInt64 >>> ((0 : Int32) &&& 0x3f).toInt64.toUInt64).toInt64).toInt32.toInt8.toInt32))).set ((Int32.ofNat on) + (1 : Int32)).toNatClampNeg (nar .byte (((vv.toUInt64 >>> ((8 : Int32) &&& 0x3f).toInt64.toUInt64).toInt64).toInt32.toInt8.toInt32))).set ((Int32.ofNat on) + (2 : Int32)).toNatClampNeg (nar .byte (((vv.toUInt64 >>> ((16 : Int32) &&& 0x3f).toInt64.toUInt64).toInt64).toInt32.toInt8.toInt32))).set ((Int32.ofNat on) + (3 : Int32)).toNatClampNeg (nar .byte (((vv.toUInt64 >>> ((24 : Int32) &&& 0x3f).toInt64.toUInt64).toInt64).toInt32.toInt8.toInt32))).set ((Int32.ofNat on) + (4 : Int32)).toNatClampNeg (nar .byte (((vv.toUInt64 >>> ((32 : Int32) &&& 0x3f).toInt64.toUInt64).toInt64).toInt32.toInt8.toInt32))).set ((Int32.ofNat on) + (5 : Int32)).toNatClampNeg (nar .byte (((vv.toUInt64 >>> ((40 : Int32) &&& 0x3f).toInt64.toUInt64).toInt64).toInt32.toInt8.toInt32))) := own_pS (own_pp5 vs on vv) (by decide) (own_by5 vv)
theorem own_pp7 (vs : List Int32) (on : Nat) (vv : Int64) : own_putN vs on vv 7 = (((((((vs.set ((Int32.ofNat on) + (0 : Int32)).toNatClampNeg (nar .byte (((vv.toUInt64 >>> ((0 : Int32) &&& 0x3f).toInt64.toUInt64).toInt64).toInt32.toInt8.toInt32))).set ((Int32.ofNat on) + (1 : Int32)).toNatClampNeg (nar .byte (((vv.toUInt64 >>> ((8 : Int32) &&& 0x3f).toInt64.toUInt64).toInt64).toInt32.toInt8.toInt32))).set ((Int32.ofNat on) + (2 : Int32)).toNatClampNeg (nar .byte (((vv.toUInt64 >>> ((16 : Int32) &&& 0x3f).toInt64.toUInt64).toInt64).toInt32.toInt8.toInt32))).set ((Int32.ofNat on) + (3 : Int32)).toNatClampNeg (nar .byte (((vv.toUInt64 >>> ((24 : Int32) &&& 0x3f).toInt64.toUInt64).toInt64).toInt32.toInt8.toInt32))).set ((Int32.ofNat on) + (4 : Int32)).toNatClampNeg (nar .byte (((vv.toUInt64 >>> ((32 : Int32) &&& 0x3f).toInt64.toUInt64).toInt64).toInt32.toInt8.toInt32))).set ((Int32.ofNat on) + (5 : Int32)).toNatClampNeg (nar .byte (((vv.toUInt64 >>> ((40 : Int32) &&& 0x3f).toInt64.toUInt64).toInt64).toInt32.toInt8.toInt32))).set ((Int32.ofNat on) + (6 : Int32)).toNatClampNeg (nar .byte (((vv.toUInt64 >>> ((48 : Int32) &&& 0x3f).toInt64.toUInt64).toInt64).toInt32.toInt8.toInt32))) := own_pS (own_pp6 vs on vv) (by decide) (own_by6 vv)
theorem own_pp8 (vs : List Int32) (on : Nat) (vv : Int64) : own_putN vs on vv 8 = ((((((((vs.set ((Int32.ofNat on) + (0 : Int32)).toNatClampNeg (nar .byte (((vv.toUInt64 >>> ((0 : Int32) &&& 0x3f).toInt64.toUInt64).toInt64).toInt32.toInt8.toInt32))).set ((Int32.ofNat on) + (1 : Int32)).toNatClampNeg (nar .byte (((vv.toUInt64 >>> ((8 : Int32) &&& 0x3f).toInt64.toUInt64).toInt64).toInt32.toInt8.toInt32))).set ((Int32.ofNat on) + (2 : Int32)).toNatClampNeg (nar .byte (((vv.toUInt64 >>> ((16 : Int32) &&& 0x3f).toInt64.toUInt64).toInt64).toInt32.toInt8.toInt32))).set ((Int32.ofNat on) + (3 : Int32)).toNatClampNeg (nar .byte (((vv.toUInt64 >>> ((24 : Int32) &&& 0x3f).toInt64.toUInt64).toInt64).toInt32.toInt8.toInt32))).set ((Int32.ofNat on) + (4 : Int32)).toNatClampNeg (nar .byte (((vv.toUInt64 >>> ((32 : Int32) &&& 0x3f).toInt64.toUInt64).toInt64).toInt32.toInt8.toInt32))).set ((Int32.ofNat on) + (5 : Int32)).toNatClampNeg (nar .byte (((vv.toUInt64 >>> ((40 : Int32) &&& 0x3f).toInt64.toUInt64).toInt64).toInt32.toInt8.toInt32))).set ((Int32.ofNat on) + (6 : Int32)).toNatClampNeg (nar .byte (((vv.toUInt64 >>> ((48 : Int32) &&& 0x3f).toInt64.toUInt64).toInt64).toInt32.toInt8.toInt32))).set ((Int32.ofNat on) + (7 : Int32)).toNatClampNeg (nar .byte (((vv.toUInt64 >>> ((56 : Int32) &&& 0x3f).toInt64.toUInt64).toInt64).toInt32.toInt8.toInt32))) := own_pS (own_pp7 vs on vv) (by decide) (own_by7 vv)
def Q_own_mput (Z : State) (ra : Addr) (on : Nat) (vv : Int64) (cn : Nat) (vs : List Int32) (h0 : Heap) (n0 : Nat) (v : Option Value) (h : Heap) (L : List Loc) : Prop := v = none ∧ Fr n0 L ∧ Keep h0 h [ra] ∧ OAL Z h ra .byte (own_putN vs on vv cn)
theorem own_pn0 : plainName "com/example/libmsgframe/libmsgframe/dsa2/LittleEndian" = true := by first | (simp [plainName, overriddenIn]; done) | decide +kernel
theorem ef_own_mput (m : MethodId) (x0 : Addr) (x1 : Int32) (x2 : Int64) (x3 : Int32) : entryFrame m #[(.ref x0), (.int x1), (.long x2), (.int x3)] 6 = mkF m 0 #[.val (.ref x0), .val (.int x1), .val (.long x2), .second, .val (.int x3), .unset] [] := by first | (simp [entryFrame, mkF, argsToLocals, Value.category]; done) | rfl
theorem d1_0 : decode prog_53_method_7_code 0 = .ok (.iconst 0, 1) := by decide +kernel
theorem d1_1 : decode prog_53_method_7_code 1 = .ok (.istore 5, 2) := by decide +kernel
theorem d1_3 : decode prog_53_method_7_code 3 = .ok (.iload 5, 2) := by decide +kernel
theorem d1_5 : decode prog_53_method_7_code 5 = .ok (.iload 4, 2) := by decide +kernel
theorem d1_7 : decode prog_53_method_7_code 7 = .ok (.if_icmp .ge 24, 3) := by decide +kernel
theorem d1_10 : decode prog_53_method_7_code 10 = .ok (.aload_n 0, 1) := by decide +kernel
theorem d1_11 : decode prog_53_method_7_code 11 = .ok (.iload_n 1, 1) := by decide +kernel
theorem d1_12 : decode prog_53_method_7_code 12 = .ok (.iload 5, 2) := by decide +kernel
theorem d1_14 : decode prog_53_method_7_code 14 = .ok (.iadd, 1) := by decide +kernel
theorem d1_15 : decode prog_53_method_7_code 15 = .ok (.lload_n 2, 1) := by decide +kernel
theorem d1_16 : decode prog_53_method_7_code 16 = .ok (.bipush 8, 2) := by decide +kernel
theorem d1_18 : decode prog_53_method_7_code 18 = .ok (.iload 5, 2) := by decide +kernel
theorem d1_20 : decode prog_53_method_7_code 20 = .ok (.imul, 1) := by decide +kernel
theorem d1_21 : decode prog_53_method_7_code 21 = .ok (.lushr, 1) := by decide +kernel
theorem d1_22 : decode prog_53_method_7_code 22 = .ok (.l2i, 1) := by decide +kernel
theorem d1_23 : decode prog_53_method_7_code 23 = .ok (.i2b, 1) := by decide +kernel
theorem d1_24 : decode prog_53_method_7_code 24 = .ok (.bastore, 1) := by decide +kernel
theorem d1_25 : decode prog_53_method_7_code 25 = .ok (.iinc 5 1, 3) := by decide +kernel
theorem d1_28 : decode prog_53_method_7_code 28 = .ok (.goto (-25), 3) := by decide +kernel
theorem d1_31 : decode prog_53_method_7_code 31 = .ok (.return_, 1) := by decide +kernel
set_option maxRecDepth 65536 in
set_option maxHeartbeats 40000000 in
theorem own_mput (l : Launch) (Z : State) (a0 : Array Value) (hw : ∀ d ∈ tables_1, d.before a0 Z = true) (ws : List Jvm.Cond) (ra : Addr) (on : Nat) (vv : Int64) (cn : Nat) (vs : List Int32) (h0 : Heap) (n0 : Nat) (Z0 : n0 ≤ h0.size) (g_ra : n0 ≤ ra) (hon : on < 5) (hcn : cn < 9) (hl : vs.length = 12) (A0 : OAL Z h0 ra .byte vs) :
    MetFree l (⟨"com/example/libmsgframe/libmsgframe/dsa2/LittleEndian", "putLowBytes", "([BIJI)V"⟩ : MethodName) (head1 (Jvm.Cond.code (⟨"com/example/libmsgframe/libmsgframe/dsa2/LittleEndian", "putLowBytes", "([BIJI)V"⟩ : MethodName) prog_53_method_7_code 6 none :: ws) ({ frames := 0, cells := 0, slots := 0, locals := 0 } : Room)) (fun a U => a = #[(.ref ra), (.int (Int32.ofNat on)), (.long vv), (.int (Int32.ofNat cn))] ∧ Z.Warmed39 U.vm ∧ U.heap = h0) (fun _ _ _ _ _ => True) (fun _ U o U' => ∃ v L, o = .returned v ∧ (Q_own_mput Z ra on vv cn vs h0 n0) v U'.heap L ∧ FrameEnd U o U' L ({ frames := 0, cells := 0, slots := 0, locals := 0 } : Room).cells ({ frames := 0, cells := 0, slots := 0, locals := 0 } : Room).slots) := by
  refine MetFree.of_bodySF (plainFor_of_name own_pn0) hisR ?_
  intro p e s m args below meth c s₁ Bd hml0 hP hK
  obtain ⟨rfl, hZ, hh⟩ := hP
  have hx := Bd.exec
  have hby := Bd.bytes
  have hret := Bd.returns
  have hlk : meth.locks = false := Bd.notSynchronized
  have hml : c.maxLocals = 6 := hml0
  have hown : s.vm.findClass "com/example/libmsgframe/libmsgframe/dsa2/LittleEndian" = some m.cls := findClass_of_methodNamed Bd.named
  have hnm := (name_of_methodNamed Bd.named Bd.method).1
  have X0 : Stand p l e ({ frames := 0, cells := 0, slots := 0, locals := 0 } : Room) s m #[(.ref ra), (.int (Int32.ofNat on)), (.long vv), (.int (Int32.ofNat cn))] below meth c s₁ [] 0 0 := Stand.of_body Bd
  have e0 : s₁.heap = h0 := by rw [← hh, Bd.state]; rfl
  have N0 := Fr.nil n0
  have pre0 : ∀ t, Steps p.tables e below (s₁.setTop (mkF m 0 #[.val (.ref ra), .val (.int (Int32.ofNat on)), .val (.long vv), .second, .val (.int (Int32.ofNat cn)), .unset] [])) t → Steps p.tables e below (s₁.setTop (entryFrame m #[(.ref ra), (.int (Int32.ofNat on)), (.long vv), (.int (Int32.ofNat cn))] 6)) t := fun t k => castTop (ef_own_mput m ra (Int32.ofNat on) vv (Int32.ofNat cn)) k
  have K0 : Keep h0 h0 [ra] := Keep.refl _ _
  show OGo p e below s (Q_own_mput Z ra on vv cn vs h0 n0) ({ frames := 0, cells := 0, slots := 0, locals := 0 } : Room).cells ({ frames := 0, cells := 0, slots := 0, locals := 0 } : Room).slots (s₁.setTop (entryFrame m #[(.ref ra), (.int (Int32.ofNat on)), (.long vv), (.int (Int32.ofNat cn))] 6))
  refine OGo.on pre0 ?_
  show OGo p e below s _ _ _ (s₁.setTop (mkF m 0 #[.val (.ref ra), .val (.int (Int32.ofNat on)), .val (.long vv), .second, .val (.int (Int32.ofNat cn)), .unset] []))
  refine OGo.on (fun t k => XS.iconst X0.here hx rfl (hb hby d1_0) k) ?_
  show OGo p e below s _ _ _ (s₁.setTop (mkF m 1 #[.val (.ref ra), .val (.int (Int32.ofNat on)), .val (.long vv), .second, .val (.int (Int32.ofNat cn)), .unset] [(.int (0 : Int32))]))
  refine OGo.on (fun t k => XS.istore X0.here hx rfl (hb hby d1_1) rfl (l' := #[.val (.ref ra), .val (.int (Int32.ofNat on)), .val (.long vv), .second, .val (.int (Int32.ofNat cn)), .val (.int (0 : Int32))]) rfl k) ?_
  show OGo p e below s _ _ _ (s₁.setTop (mkF m 3 #[.val (.ref ra), .val (.int (Int32.ofNat on)), .val (.long vv), .second, .val (.int (Int32.ofNat cn)), .val (.int (0 : Int32))] []))
  refine OGo.on (fun t k => XS.iload X0.here hx rfl (hb hby d1_3) rfl k) ?_
  show OGo p e below s _ _ _ (s₁.setTop (mkF m 5 #[.val (.ref ra), .val (.int (Int32.ofNat on)), .val (.long vv), .second, .val (.int (Int32.ofNat cn)), .val (.int (0 : Int32))] [(.int (0 : Int32))]))
  refine OGo.on (fun t k => XS.iload X0.here hx rfl (hb hby d1_5) rfl k) ?_
  show OGo p e below s _ _ _ (s₁.setTop (mkF m 7 #[.val (.ref ra), .val (.int (Int32.ofNat on)), .val (.long vv), .second, .val (.int (Int32.ofNat cn)), .val (.int (0 : Int32))] [(.int (Int32.ofNat cn)), (.int (0 : Int32))]))
  by_cases hc1 : (0 : Int32) < (Int32.ofNat cn)
  · refine OGo.on (fun t k => XS.icmpNo X0.here hx rfl (hb hby d1_7) rfl (tlt hc1).2.1 k) ?_
    show OGo p e below s _ _ _ (s₁.setTop (mkF m 10 #[.val (.ref ra), .val (.int (Int32.ofNat on)), .val (.long vv), .second, .val (.int (Int32.ofNat cn)), .val (.int (0 : Int32))] []))
    refine OGo.on (fun t k => XS.aloadN X0.here hx rfl (hb hby d1_10) rfl rfl k) ?_
    show OGo p e below s _ _ _ (s₁.setTop (mkF m 11 #[.val (.ref ra), .val (.int (Int32.ofNat on)), .val (.long vv), .second, .val (.int (Int32.ofNat cn)), .val (.int (0 : Int32))] [(.ref ra)]))
    refine OGo.on (fun t k => XS.iloadN X0.here hx rfl (hb hby d1_11) rfl k) ?_
    show OGo p e below s _ _ _ (s₁.setTop (mkF m 12 #[.val (.ref ra), .val (.int (Int32.ofNat on)), .val (.long vv), .second, .val (.int (Int32.ofNat cn)), .val (.int (0 : Int32))] [(.int (Int32.ofNat on)), (.ref ra)]))
    refine OGo.on (fun t k => XS.iload X0.here hx rfl (hb hby d1_12) rfl k) ?_
    show OGo p e below s _ _ _ (s₁.setTop (mkF m 14 #[.val (.ref ra), .val (.int (Int32.ofNat on)), .val (.long vv), .second, .val (.int (Int32.ofNat cn)), .val (.int (0 : Int32))] [(.int (0 : Int32)), (.int (Int32.ofNat on)), (.ref ra)]))
    refine OGo.on (fun t k => XS.iadd X0.here hx rfl (hb hby d1_14) rfl k) ?_
    show OGo p e below s _ _ _ (s₁.setTop (mkF m 15 #[.val (.ref ra), .val (.int (Int32.ofNat on)), .val (.long vv), .second, .val (.int (Int32.ofNat cn)), .val (.int (0 : Int32))] [(.int ((Int32.ofNat on) + (0 : Int32))), (.ref ra)]))
    refine OGo.on (fun t k => XS.lloadN X0.here hx rfl (hb hby d1_15) rfl k) ?_
    show OGo p e below s _ _ _ (s₁.setTop (mkF m 16 #[.val (.ref ra), .val (.int (Int32.ofNat on)), .val (.long vv), .second, .val (.int (Int32.ofNat cn)), .val (.int (0 : Int32))] [(.long vv), (.int ((Int32.ofNat on) + (0 : Int32))), (.ref ra)]))
    refine OGo.on (fun t k => XS.bipush X0.here hx rfl (hb hby d1_16) k) ?_
    show OGo p e below s _ _ _ (s₁.setTop (mkF m 18 #[.val (.ref ra), .val (.int (Int32.ofNat on)), .val (.long vv), .second, .val (.int (Int32.ofNat cn)), .val (.int (0 : Int32))] [(.int (8 : Int32)), (.long vv), (.int ((Int32.ofNat on) + (0 : Int32))), (.ref ra)]))
    refine OGo.on (fun t k => XS.iload X0.here hx rfl (hb hby d1_18) rfl k) ?_
    show OGo p e below s _ _ _ (s₁.setTop (mkF m 20 #[.val (.ref ra), .val (.int (Int32.ofNat on)), .val (.long vv), .second, .val (.int (Int32.ofNat cn)), .val (.int (0 : Int32))] [(.int (0 : Int32)), (.int (8 : Int32)), (.long vv), (.int ((Int32.ofNat on) + (0 : Int32))), (.ref ra)]))
    refine OGo.on (fun t k => XS.imul X0.here hx rfl (hb hby d1_20) rfl k) ?_
    show OGo p e below s _ _ _ (s₁.setTop (mkF m 21 #[.val (.ref ra), .val (.int (Int32.ofNat on)), .val (.long vv), .second, .val (.int (Int32.ofNat cn)), .val (.int (0 : Int32))] [(.int (0 : Int32)), (.long vv), (.int ((Int32.ofNat on) + (0 : Int32))), (.ref ra)]))
    refine OGo.on (fun t k => XS.lushr X0.here hx rfl (hb hby d1_21) rfl k) ?_
    show OGo p e below s _ _ _ (s₁.setTop (mkF m 22 #[.val (.ref ra), .val (.int (Int32.ofNat on)), .val (.long vv), .second, .val (.int (Int32.ofNat cn)), .val (.int (0 : Int32))] [(.long ((vv.toUInt64 >>> ((0 : Int32) &&& 0x3f).toInt64.toUInt64).toInt64)), (.int ((Int32.ofNat on) + (0 : Int32))), (.ref ra)]))
    refine OGo.on (fun t k => XS.l2i X0.here hx rfl (hb hby d1_22) rfl k) ?_
    show OGo p e below s _ _ _ (s₁.setTop (mkF m 23 #[.val (.ref ra), .val (.int (Int32.ofNat on)), .val (.long vv), .second, .val (.int (Int32.ofNat cn)), .val (.int (0 : Int32))] [(.int (((vv.toUInt64 >>> ((0 : Int32) &&& 0x3f).toInt64.toUInt64).toInt64).toInt32)), (.int ((Int32.ofNat on) + (0 : Int32))), (.ref ra)]))
    refine OGo.on (fun t k => XS.i2b X0.here hx rfl (hb hby d1_23) rfl k) ?_
    show OGo p e below s _ _ _ (s₁.setTop (mkF m 24 #[.val (.ref ra), .val (.int (Int32.ofNat on)), .val (.long vv), .second, .val (.int (Int32.ofNat cn)), .val (.int (0 : Int32))] [(.int ((((vv.toUInt64 >>> ((0 : Int32) &&& 0x3f).toInt64.toUInt64).toInt64).toInt32).toInt8.toInt32)), (.int ((Int32.ofNat on) + (0 : Int32))), (.ref ra)]))
    obtain ⟨T2, h2, X2, e2, W2, A2, st2⟩ := OAL.stB X0 hx hZ e0 A0 (j := ((Int32.ofNat on) + (0 : Int32))) (x := ((((vv.toUInt64 >>> ((0 : Int32) &&& 0x3f).toInt64.toUInt64).toInt64).toInt32).toInt8.toInt32)) (own_idx2 (n := on) (k := 0) (by omega)).1 (by (try simp only [List.length_set]); rw [hl]; exact Nat.lt_of_le_of_lt (Nat.le_of_eq (own_idx2 (n := on) (k := 0) (by omega)).2) (by omega)) (Ls := #[.val (.ref ra), .val (.int (Int32.ofNat on)), .val (.long vv), .second, .val (.int (Int32.ofNat cn)), .val (.int (0 : Int32))]) (rest := []) (hb hby d1_24)
    have Z3 : n0 ≤ h2.size := Nat.le_trans Z0 (Nat.le_of_eq W2.size.symm)
    have N4 := Fr.snoc X2 N0 g_ra
    obtain ⟨Lh5, Xh5, Nh5⟩ := own_hide X2 N4
    have K6 : Keep h0 h2 [ra] := K0.wr W2 (Or.inl (List.mem_of_getElem? (i := 0) rfl))
    have V2 : OAL Z h2 ra .byte (vs.set ((Int32.ofNat on) + (0 : Int32)).toNatClampNeg (nar .byte ((((vv.toUInt64 >>> ((0 : Int32) &&& 0x3f).toInt64.toUInt64).toInt64).toInt32).toInt8.toInt32))) := A2
    refine OGo.on st2 ?_
    show OGo p e below s _ _ _ (T2.setTop (mkF m 25 #[.val (.ref ra), .val (.int (Int32.ofNat on)), .val (.long vv), .second, .val (.int (Int32.ofNat cn)), .val (.int (0 : Int32))] []))
    refine OGo.on (fun t k => XS.iinc Xh5.here hx rfl (hb hby d1_25) rfl (l' := #[.val (.ref ra), .val (.int (Int32.ofNat on)), .val (.long vv), .second, .val (.int (Int32.ofNat cn)), .val (.int (1 : Int32))]) rfl k) ?_
    show OGo p e below s _ _ _ (T2.setTop (mkF m 28 #[.val (.ref ra), .val (.int (Int32.ofNat on)), .val (.long vv), .second, .val (.int (Int32.ofNat cn)), .val (.int (1 : Int32))] []))
    refine OGo.on (fun t k => XS.goto Xh5.here hx rfl (pc0 := 28) (pc' := 3) rfl (hb hby d1_28) (by decide) (by decide) k) ?_
    show OGo p e below s _ _ _ (T2.setTop (mkF m 3 #[.val (.ref ra), .val (.int (Int32.ofNat on)), .val (.long vv), .second, .val (.int (Int32.ofNat cn)), .val (.int (1 : Int32))] []))
    refine OGo.on (fun t k => XS.iload Xh5.here hx rfl (hb hby d1_3) rfl k) ?_
    show OGo p e below s _ _ _ (T2.setTop (mkF m 5 #[.val (.ref ra), .val (.int (Int32.ofNat on)), .val (.long vv), .second, .val (.int (Int32.ofNat cn)), .val (.int (1 : Int32))] [(.int (1 : Int32))]))
    refine OGo.on (fun t k => XS.iload Xh5.here hx rfl (hb hby d1_5) rfl k) ?_
    show OGo p e below s _ _ _ (T2.setTop (mkF m 7 #[.val (.ref ra), .val (.int (Int32.ofNat on)), .val (.long vv), .second, .val (.int (Int32.ofNat cn)), .val (.int (1 : Int32))] [(.int (Int32.ofNat cn)), (.int (1 : Int32))]))
    by_cases hc7 : (1 : Int32) < (Int32.ofNat cn)
    · refine OGo.on (fun t k => XS.icmpNo Xh5.here hx rfl (hb hby d1_7) rfl (tlt hc7).2.1 k) ?_
      show OGo p e below s _ _ _ (T2.setTop (mkF m 10 #[.val (.ref ra), .val (.int (Int32.ofNat on)), .val (.long vv), .second, .val (.int (Int32.ofNat cn)), .val (.int (1 : Int32))] []))
      refine OGo.on (fun t k => XS.aloadN Xh5.here hx rfl (hb hby d1_10) rfl rfl k) ?_
      show OGo p e below s _ _ _ (T2.setTop (mkF m 11 #[.val (.ref ra), .val (.int (Int32.ofNat on)), .val (.long vv), .second, .val (.int (Int32.ofNat cn)), .val (.int (1 : Int32))] [(.ref ra)]))
      refine OGo.on (fun t k => XS.iloadN Xh5.here hx rfl (hb hby d1_11) rfl k) ?_
      show OGo p e below s _ _ _ (T2.setTop (mkF m 12 #[.val (.ref ra), .val (.int (Int32.ofNat on)), .val (.long vv), .second, .val (.int (Int32.ofNat cn)), .val (.int (1 : Int32))] [(.int (Int32.ofNat on)), (.ref ra)]))
      refine OGo.on (fun t k => XS.iload Xh5.here hx rfl (hb hby d1_12) rfl k) ?_
      show OGo p e below s _ _ _ (T2.setTop (mkF m 14 #[.val (.ref ra), .val (.int (Int32.ofNat on)), .val (.long vv), .second, .val (.int (Int32.ofNat cn)), .val (.int (1 : Int32))] [(.int (1 : Int32)), (.int (Int32.ofNat on)), (.ref ra)]))
      refine OGo.on (fun t k => XS.iadd Xh5.here hx rfl (hb hby d1_14) rfl k) ?_
      show OGo p e below s _ _ _ (T2.setTop (mkF m 15 #[.val (.ref ra), .val (.int (Int32.ofNat on)), .val (.long vv), .second, .val (.int (Int32.ofNat cn)), .val (.int (1 : Int32))] [(.int ((Int32.ofNat on) + (1 : Int32))), (.ref ra)]))
      refine OGo.on (fun t k => XS.lloadN Xh5.here hx rfl (hb hby d1_15) rfl k) ?_
      show OGo p e below s _ _ _ (T2.setTop (mkF m 16 #[.val (.ref ra), .val (.int (Int32.ofNat on)), .val (.long vv), .second, .val (.int (Int32.ofNat cn)), .val (.int (1 : Int32))] [(.long vv), (.int ((Int32.ofNat on) + (1 : Int32))), (.ref ra)]))
      refine OGo.on (fun t k => XS.bipush Xh5.here hx rfl (hb hby d1_16) k) ?_
      show OGo p e below s _ _ _ (T2.setTop (mkF m 18 #[.val (.ref ra), .val (.int (Int32.ofNat on)), .val (.long vv), .second, .val (.int (Int32.ofNat cn)), .val (.int (1 : Int32))] [(.int (8 : Int32)), (.long vv), (.int ((Int32.ofNat on) + (1 : Int32))), (.ref ra)]))
      refine OGo.on (fun t k => XS.iload Xh5.here hx rfl (hb hby d1_18) rfl k) ?_
      show OGo p e below s _ _ _ (T2.setTop (mkF m 20 #[.val (.ref ra), .val (.int (Int32.ofNat on)), .val (.long vv), .second, .val (.int (Int32.ofNat cn)), .val (.int (1 : Int32))] [(.int (1 : Int32)), (.int (8 : Int32)), (.long vv), (.int ((Int32.ofNat on) + (1 : Int32))), (.ref ra)]))
      refine OGo.on (fun t k => XS.imul Xh5.here hx rfl (hb hby d1_20) rfl k) ?_
      show OGo p e below s _ _ _ (T2.setTop (mkF m 21 #[.val (.ref ra), .val (.int (Int32.ofNat on)), .val (.long vv), .second, .val (.int (Int32.ofNat cn)), .val (.int (1 : Int32))] [(.int (8 : Int32)), (.long vv), (.int ((Int32.ofNat on) + (1 : Int32))), (.ref ra)]))
      refine OGo.on (fun t k => XS.lushr Xh5.here hx rfl (hb hby d1_21) rfl k) ?_
      show OGo p e below s _ _ _ (T2.setTop (mkF m 22 #[.val (.ref ra), .val (.int (Int32.ofNat on)), .val (.long vv), .second, .val (.int (Int32.ofNat cn)), .val (.int (1 : Int32))] [(.long ((vv.toUInt64 >>> ((8 : Int32) &&& 0x3f).toInt64.toUInt64).toInt64)), (.int ((Int32.ofNat on) + (1 : Int32))), (.ref ra)]))
      refine OGo.on (fun t k => XS.l2i Xh5.here hx rfl (hb hby d1_22) rfl k) ?_
      show OGo p e below s _ _ _ (T2.setTop (mkF m 23 #[.val (.ref ra), .val (.int (Int32.ofNat on)), .val (.long vv), .second, .val (.int (Int32.ofNat cn)), .val (.int (1 : Int32))] [(.int (((vv.toUInt64 >>> ((8 : Int32) &&& 0x3f).toInt64.toUInt64).toInt64).toInt32)), (.int ((Int32.ofNat on) + (1 : Int32))), (.ref ra)]))
      refine OGo.on (fun t k => XS.i2b Xh5.here hx rfl (hb hby d1_23) rfl k) ?_
      show OGo p e below s _ _ _ (T2.setTop (mkF m 24 #[.val (.ref ra), .val (.int (Int32.ofNat on)), .val (.long vv), .second, .val (.int (Int32.ofNat cn)), .val (.int (1 : Int32))] [(.int ((((vv.toUInt64 >>> ((8 : Int32) &&& 0x3f).toInt64.toUInt64).toInt64).toInt32).toInt8.toInt32)), (.int ((Int32.ofNat on) + (1 : Int32))), (.ref ra)]))
      obtain ⟨T8, h8, X8, e8, W8, A8, st8⟩ := OAL.stB Xh5 hx hZ e2 V2 (j := ((Int32.ofNat on) + (1 : Int32))) (x := ((((vv.toUInt64 >>> ((8 : Int32) &&& 0x3f).toInt64.toUInt64).toInt64).toInt32).toInt8.toInt32)) (own_idx2 (n := on) (k := 1) (by omega)).1 (by (try simp only [List.length_set]); rw [hl]; exact Nat.lt_of_le_of_lt (Nat.le_of_eq (own_idx2 (n := on) (k := 1) (by omega)).2) (by omega)) (Ls := #[.val (.ref ra), .val (.int (Int32.ofNat on)), .val (.long vv), .second, .val (.int (Int32.ofNat cn)), .val (.int (1 : Int32))]) (rest := []) (hb hby d1_24)
      have Z9 : n0 ≤ h8.size := Nat.le_trans Z3 (Nat.le_of_eq W8.size.symm)
      have N10 := Fr.snoc X8 Nh5 g_ra
      obtain ⟨Lh11, Xh11, Nh11⟩ := own_hide X8 N10
      have K12 : Keep h0 h8 [ra] := K6.wr W8 (Or.inl (List.mem_of_getElem? (i := 0) rfl))
      have V8 : OAL Z h8 ra .byte ((vs.set ((Int32.ofNat on) + (0 : Int32)).toNatClampNeg (nar .byte ((((vv.toUInt64 >>> ((0 : Int32) &&& 0x3f).toInt64.toUInt64).toInt64).toInt32).toInt8.toInt32))).set ((Int32.ofNat on) + (1 : Int32)).toNatClampNeg (nar .byte ((((vv.toUInt64 >>> ((8 : Int32) &&& 0x3f).toInt64.toUInt64).toInt64).toInt32).toInt8.toInt32))) := A8
      refine OGo.on st8 ?_
      show OGo p e below s _ _ _ (T8.setTop (mkF m 25 #[.val (.ref ra), .val (.int (Int32.ofNat on)), .val (.long vv), .second, .val (.int (Int32.ofNat cn)), .val (.int (1 : Int32))] []))
      refine OGo.on (fun t k => XS.iinc Xh11.here hx rfl (hb hby d1_25) rfl (l' := #[.val (.ref ra), .val (.int (Int32.ofNat on)), .val (.long vv), .second, .val (.int (Int32.ofNat cn)), .val (.int (2 : Int32))]) rfl k) ?_
      show OGo p e below s _ _ _ (T8.setTop (mkF m 28 #[.val (.ref ra), .val (.int (Int32.ofNat on)), .val (.long vv), .second, .val (.int (Int32.ofNat cn)), .val (.int (2 : Int32))] []))
      refine OGo.on (fun t k => XS.goto Xh11.here hx rfl (pc0 := 28) (pc' := 3) rfl (hb hby d1_28) (by decide) (by decide) k) ?_
      show OGo p e below s _ _ _ (T8.setTop (mkF m 3 #[.val (.ref ra), .val (.int (Int32.ofNat on)), .val (.long vv), .second, .val (.int (Int32.ofNat cn)), .val (.int (2 : Int32))] []))
      refine OGo.on (fun t k => XS.iload Xh11.here hx rfl (hb hby d1_3) rfl k) ?_
      show OGo p e below s _ _ _ (T8.setTop (mkF m 5 #[.val (.ref ra), .val (.int (Int32.ofNat on)), .val (.long vv), .second, .val (.int (Int32.ofNat cn)), .val (.int (2 : Int32))] [(.int (2 : Int32))]))
      refine OGo.on (fun t k => XS.iload Xh11.here hx rfl (hb hby d1_5) rfl k) ?_
      show OGo p e below s _ _ _ (T8.setTop (mkF m 7 #[.val (.ref ra), .val (.int (Int32.ofNat on)), .val (.long vv), .second, .val (.int (Int32.ofNat cn)), .val (.int (2 : Int32))] [(.int (Int32.ofNat cn)), (.int (2 : Int32))]))
      by_cases hc13 : (2 : Int32) < (Int32.ofNat cn)
      · refine OGo.on (fun t k => XS.icmpNo Xh11.here hx rfl (hb hby d1_7) rfl (tlt hc13).2.1 k) ?_
        show OGo p e below s _ _ _ (T8.setTop (mkF m 10 #[.val (.ref ra), .val (.int (Int32.ofNat on)), .val (.long vv), .second, .val (.int (Int32.ofNat cn)), .val (.int (2 : Int32))] []))
        refine OGo.on (fun t k => XS.aloadN Xh11.here hx rfl (hb hby d1_10) rfl rfl k) ?_
        show OGo p e below s _ _ _ (T8.setTop (mkF m 11 #[.val (.ref ra), .val (.int (Int32.ofNat on)), .val (.long vv), .second, .val (.int (Int32.ofNat cn)), .val (.int (2 : Int32))] [(.ref ra)]))
        refine OGo.on (fun t k => XS.iloadN Xh11.here hx rfl (hb hby d1_11) rfl k) ?_
        show OGo p e below s _ _ _ (T8.setTop (mkF m 12 #[.val (.ref ra), .val (.int (Int32.ofNat on)), .val (.long vv), .second, .val (.int (Int32.ofNat cn)), .val (.int (2 : Int32))] [(.int (Int32.ofNat on)), (.ref ra)]))
        refine OGo.on (fun t k => XS.iload Xh11.here hx rfl (hb hby d1_12) rfl k) ?_
        show OGo p e below s _ _ _ (T8.setTop (mkF m 14 #[.val (.ref ra), .val (.int (Int32.ofNat on)), .val (.long vv), .second, .val (.int (Int32.ofNat cn)), .val (.int (2 : Int32))] [(.int (2 : Int32)), (.int (Int32.ofNat on)), (.ref ra)]))
        refine OGo.on (fun t k => XS.iadd Xh11.here hx rfl (hb hby d1_14) rfl k) ?_
        show OGo p e below s _ _ _ (T8.setTop (mkF m 15 #[.val (.ref ra), .val (.int (Int32.ofNat on)), .val (.long vv), .second, .val (.int (Int32.ofNat cn)), .val (.int (2 : Int32))] [(.int ((Int32.ofNat on) + (2 : Int32))), (.ref ra)]))
        refine OGo.on (fun t k => XS.lloadN Xh11.here hx rfl (hb hby d1_15) rfl k) ?_
        show OGo p e below s _ _ _ (T8.setTop (mkF m 16 #[.val (.ref ra), .val (.int (Int32.ofNat on)), .val (.long vv), .second, .val (.int (Int32.ofNat cn)), .val (.int (2 : Int32))] [(.long vv), (.int ((Int32.ofNat on) + (2 : Int32))), (.ref ra)]))
        refine OGo.on (fun t k => XS.bipush Xh11.here hx rfl (hb hby d1_16) k) ?_
        show OGo p e below s _ _ _ (T8.setTop (mkF m 18 #[.val (.ref ra), .val (.int (Int32.ofNat on)), .val (.long vv), .second, .val (.int (Int32.ofNat cn)), .val (.int (2 : Int32))] [(.int (8 : Int32)), (.long vv), (.int ((Int32.ofNat on) + (2 : Int32))), (.ref ra)]))
        refine OGo.on (fun t k => XS.iload Xh11.here hx rfl (hb hby d1_18) rfl k) ?_
        show OGo p e below s _ _ _ (T8.setTop (mkF m 20 #[.val (.ref ra), .val (.int (Int32.ofNat on)), .val (.long vv), .second, .val (.int (Int32.ofNat cn)), .val (.int (2 : Int32))] [(.int (2 : Int32)), (.int (8 : Int32)), (.long vv), (.int ((Int32.ofNat on) + (2 : Int32))), (.ref ra)]))
        refine OGo.on (fun t k => XS.imul Xh11.here hx rfl (hb hby d1_20) rfl k) ?_
        show OGo p e below s _ _ _ (T8.setTop (mkF m 21 #[.val (.ref ra), .val (.int (Int32.ofNat on)), .val (.long vv), .second, .val (.int (Int32.ofNat cn)), .val (.int (2 : Int32))] [(.int (16 : Int32)), (.long vv), (.int ((Int32.ofNat on) + (2 : Int32))), (.ref ra)]))
        refine OGo.on (fun t k => XS.lushr Xh11.here hx rfl (hb hby d1_21) rfl k) ?_
        show OGo p e below s _ _ _ (T8.setTop (mkF m 22 #[.val (.ref ra), .val (.int (Int32.ofNat on)), .val (.long vv), .second, .val (.int (Int32.ofNat cn)), .val (.int (2 : Int32))] [(.long ((vv.toUInt64 >>> ((16 : Int32) &&& 0x3f).toInt64.toUInt64).toInt64)), (.int ((Int32.ofNat on) + (2 : Int32))), (.ref ra)]))
        refine OGo.on (fun t k => XS.l2i Xh11.here hx rfl (hb hby d1_22) rfl k) ?_
        show OGo p e below s _ _ _ (T8.setTop (mkF m 23 #[.val (.ref ra), .val (.int (Int32.ofNat on)), .val (.long vv), .second, .val (.int (Int32.ofNat cn)), .val (.int (2 : Int32))] [(.int (((vv.toUInt64 >>> ((16 : Int32) &&& 0x3f).toInt64.toUInt64).toInt64).toInt32)), (.int ((Int32.ofNat on) + (2 : Int32))), (.ref ra)]))
        refine OGo.on (fun t k => XS.i2b Xh11.here hx rfl (hb hby d1_23) rfl k) ?_
        show OGo p e below s _ _ _ (T8.setTop (mkF m 24 #[.val (.ref ra), .val (.int (Int32.ofNat on)), .val (.long vv), .second, .val (.int (Int32.ofNat cn)), .val (.int (2 : Int32))] [(.int ((((vv.toUInt64 >>> ((16 : Int32) &&& 0x3f).toInt64.toUInt64).toInt64).toInt32).toInt8.toInt32)), (.int ((Int32.ofNat on) + (2 : Int32))), (.ref ra)]))
        obtain ⟨T14, h14, X14, e14, W14, A14, st14⟩ := OAL.stB Xh11 hx hZ e8 V8 (j := ((Int32.ofNat on) + (2 : Int32))) (x := ((((vv.toUInt64 >>> ((16 : Int32) &&& 0x3f).toInt64.toUInt64).toInt64).toInt32).toInt8.toInt32)) (own_idx2 (n := on) (k := 2) (by omega)).1 (by (try simp only [List.length_set]); rw [hl]; exact Nat.lt_of_le_of_lt (Nat.le_of_eq (own_idx2 (n := on) (k := 2) (by omega)).2) (by omega)) (Ls := #[.val (.ref ra), .val (.int (Int32.ofNat on)), .val (.long vv), .second, .val (.int (Int32.ofNat cn)), .val (.int (2 : Int32))]) (rest := []) (hb hby d1_24)
        have Z15 : n0 ≤ h14.size := Nat.le_trans Z9 (Nat.le_of_eq W14.size.symm)
        have N16 := Fr.snoc X14 Nh11 g_ra
        obtain ⟨Lh17, Xh17, Nh17⟩ := own_hide X14 N16
        have K18 : Keep h0 h14 [ra] := K12.wr W14 (Or.inl (List.mem_of_getElem? (i := 0) rfl))
        have V14 : OAL Z h14 ra .byte (((vs.set ((Int32.ofNat on) + (0 : Int32)).toNatClampNeg (nar .byte ((((vv.toUInt64 >>> ((0 : Int32) &&& 0x3f).toInt64.toUInt64).toInt64).toInt32).toInt8.toInt32))).set ((Int32.ofNat on) + (1 : Int32)).toNatClampNeg (nar .byte ((((vv.toUInt64 >>> ((8 : Int32) &&& 0x3f).toInt64.toUInt64).toInt64).toInt32).toInt8.toInt32))).set ((Int32.ofNat on) + (2 : Int32)).toNatClampNeg (nar .byte ((((vv.toUInt64 >>> ((16 : Int32) &&& 0x3f).toInt64.toUInt64).toInt64).toInt32).toInt8.toInt32))) := A14
        refine OGo.on st14 ?_
        show OGo p e below s _ _ _ (T14.setTop (mkF m 25 #[.val (.ref ra), .val (.int (Int32.ofNat on)), .val (.long vv), .second, .val (.int (Int32.ofNat cn)), .val (.int (2 : Int32))] []))
        refine OGo.on (fun t k => XS.iinc Xh17.here hx rfl (hb hby d1_25) rfl (l' := #[.val (.ref ra), .val (.int (Int32.ofNat on)), .val (.long vv), .second, .val (.int (Int32.ofNat cn)), .val (.int (3 : Int32))]) rfl k) ?_
        show OGo p e below s _ _ _ (T14.setTop (mkF m 28 #[.val (.ref ra), .val (.int (Int32.ofNat on)), .val (.long vv), .second, .val (.int (Int32.ofNat cn)), .val (.int (3 : Int32))] []))
        refine OGo.on (fun t k => XS.goto Xh17.here hx rfl (pc0 := 28) (pc' := 3) rfl (hb hby d1_28) (by decide) (by decide) k) ?_
        show OGo p e below s _ _ _ (T14.setTop (mkF m 3 #[.val (.ref ra), .val (.int (Int32.ofNat on)), .val (.long vv), .second, .val (.int (Int32.ofNat cn)), .val (.int (3 : Int32))] []))
        refine OGo.on (fun t k => XS.iload Xh17.here hx rfl (hb hby d1_3) rfl k) ?_
        show OGo p e below s _ _ _ (T14.setTop (mkF m 5 #[.val (.ref ra), .val (.int (Int32.ofNat on)), .val (.long vv), .second, .val (.int (Int32.ofNat cn)), .val (.int (3 : Int32))] [(.int (3 : Int32))]))
        refine OGo.on (fun t k => XS.iload Xh17.here hx rfl (hb hby d1_5) rfl k) ?_
        show OGo p e below s _ _ _ (T14.setTop (mkF m 7 #[.val (.ref ra), .val (.int (Int32.ofNat on)), .val (.long vv), .second, .val (.int (Int32.ofNat cn)), .val (.int (3 : Int32))] [(.int (Int32.ofNat cn)), (.int (3 : Int32))]))
        by_cases hc19 : (3 : Int32) < (Int32.ofNat cn)
        · refine OGo.on (fun t k => XS.icmpNo Xh17.here hx rfl (hb hby d1_7) rfl (tlt hc19).2.1 k) ?_
          show OGo p e below s _ _ _ (T14.setTop (mkF m 10 #[.val (.ref ra), .val (.int (Int32.ofNat on)), .val (.long vv), .second, .val (.int (Int32.ofNat cn)), .val (.int (3 : Int32))] []))
          refine OGo.on (fun t k => XS.aloadN Xh17.here hx rfl (hb hby d1_10) rfl rfl k) ?_
          show OGo p e below s _ _ _ (T14.setTop (mkF m 11 #[.val (.ref ra), .val (.int (Int32.ofNat on)), .val (.long vv), .second, .val (.int (Int32.ofNat cn)), .val (.int (3 : Int32))] [(.ref ra)]))
          refine OGo.on (fun t k => XS.iloadN Xh17.here hx rfl (hb hby d1_11) rfl k) ?_
          show OGo p e below s _ _ _ (T14.setTop (mkF m 12 #[.val (.ref ra), .val (.int (Int32.ofNat on)), .val (.long vv), .second, .val (.int (Int32.ofNat cn)), .val (.int (3 : Int32))] [(.int (Int32.ofNat on)), (.ref ra)]))
          refine OGo.on (fun t k => XS.iload Xh17.here hx rfl (hb hby d1_12) rfl k) ?_
          show OGo p e below s _ _ _ (T14.setTop (mkF m 14 #[.val (.ref ra), .val (.int (Int32.ofNat on)), .val (.long vv), .second, .val (.int (Int32.ofNat cn)), .val (.int (3 : Int32))] [(.int (3 : Int32)), (.int (Int32.ofNat on)), (.ref ra)]))
          refine OGo.on (fun t k => XS.iadd Xh17.here hx rfl (hb hby d1_14) rfl k) ?_
          show OGo p e below s _ _ _ (T14.setTop (mkF m 15 #[.val (.ref ra), .val (.int (Int32.ofNat on)), .val (.long vv), .second, .val (.int (Int32.ofNat cn)), .val (.int (3 : Int32))] [(.int ((Int32.ofNat on) + (3 : Int32))), (.ref ra)]))
          refine OGo.on (fun t k => XS.lloadN Xh17.here hx rfl (hb hby d1_15) rfl k) ?_
          show OGo p e below s _ _ _ (T14.setTop (mkF m 16 #[.val (.ref ra), .val (.int (Int32.ofNat on)), .val (.long vv), .second, .val (.int (Int32.ofNat cn)), .val (.int (3 : Int32))] [(.long vv), (.int ((Int32.ofNat on) + (3 : Int32))), (.ref ra)]))
          refine OGo.on (fun t k => XS.bipush Xh17.here hx rfl (hb hby d1_16) k) ?_
          show OGo p e below s _ _ _ (T14.setTop (mkF m 18 #[.val (.ref ra), .val (.int (Int32.ofNat on)), .val (.long vv), .second, .val (.int (Int32.ofNat cn)), .val (.int (3 : Int32))] [(.int (8 : Int32)), (.long vv), (.int ((Int32.ofNat on) + (3 : Int32))), (.ref ra)]))
          refine OGo.on (fun t k => XS.iload Xh17.here hx rfl (hb hby d1_18) rfl k) ?_
          show OGo p e below s _ _ _ (T14.setTop (mkF m 20 #[.val (.ref ra), .val (.int (Int32.ofNat on)), .val (.long vv), .second, .val (.int (Int32.ofNat cn)), .val (.int (3 : Int32))] [(.int (3 : Int32)), (.int (8 : Int32)), (.long vv), (.int ((Int32.ofNat on) + (3 : Int32))), (.ref ra)]))
          refine OGo.on (fun t k => XS.imul Xh17.here hx rfl (hb hby d1_20) rfl k) ?_
          show OGo p e below s _ _ _ (T14.setTop (mkF m 21 #[.val (.ref ra), .val (.int (Int32.ofNat on)), .val (.long vv), .second, .val (.int (Int32.ofNat cn)), .val (.int (3 : Int32))] [(.int (24 : Int32)), (.long vv), (.int ((Int32.ofNat on) + (3 : Int32))), (.ref ra)]))
          refine OGo.on (fun t k => XS.lushr Xh17.here hx rfl (hb hby d1_21) rfl k) ?_
          show OGo p e below s _ _ _ (T14.setTop (mkF m 22 #[.val (.ref ra), .val (.int (Int32.ofNat on)), .val (.long vv), .second, .val (.int (Int32.ofNat cn)), .val (.int (3 : Int32))] [(.long ((vv.toUInt64 >>> ((24 : Int32) &&& 0x3f).toInt64.toUInt64).toInt64)), (.int ((Int32.ofNat on) + (3 : Int32))), (.ref ra)]))
          refine OGo.on (fun t k => XS.l2i Xh17.here hx rfl (hb hby d1_22) rfl k) ?_
          show OGo p e below s _ _ _ (T14.setTop (mkF m 23 #[.val (.ref ra), .val (.int (Int32.ofNat on)), .val (.long vv), .second, .val (.int (Int32.ofNat cn)), .val (.int (3 : Int32))] [(.int (((vv.toUInt64 >>> ((24 : Int32) &&& 0x3f).toInt64.toUInt64).toInt64).toInt32)), (.int ((Int32.ofNat on) + (3 : Int32))), (.ref ra)]))
          refine OGo.on (fun t k => XS.i2b Xh17.here hx rfl (hb hby d1_23) rfl k) ?_
          show OGo p e below s _ _ _ (T14.setTop (mkF m 24 #[.val (.ref ra), .val (.int (Int32.ofNat on)), .val (.long vv), .second, .val (.int (Int32.ofNat cn)), .val (.int (3 : Int32))] [(.int ((((vv.toUInt64 >>> ((24 : Int32) &&& 0x3f).toInt64.toUInt64).toInt64).toInt32).toInt8.toInt32)), (.int ((Int32.ofNat on) + (3 : Int32))), (.ref ra)]))
          obtain ⟨T20, h20, X20, e20, W20, A20, st20⟩ := OAL.stB Xh17 hx hZ e14 V14 (j := ((Int32.ofNat on) + (3 : Int32))) (x := ((((vv.toUInt64 >>> ((24 : Int32) &&& 0x3f).toInt64.toUInt64).toInt64).toInt32).toInt8.toInt32)) (own_idx2 (n := on) (k := 3) (by omega)).1 (by (try simp only [List.length_set]); rw [hl]; exact Nat.lt_of_le_of_lt (Nat.le_of_eq (own_idx2 (n := on) (k := 3) (by omega)).2) (by omega)) (Ls := #[.val (.ref ra), .val (.int (Int32.ofNat on)), .val (.long vv), .second, .val (.int (Int32.ofNat cn)), .val (.int (3 : Int32))]) (rest := []) (hb hby d1_24)
          have Z21 : n0 ≤ h20.size := Nat.le_trans Z15 (Nat.le_of_eq W20.size.symm)
          have N22 := Fr.snoc X20 Nh17 g_ra
          obtain ⟨Lh23, Xh23, Nh23⟩ := own_hide X20 N22
          have K24 : Keep h0 h20 [ra] := K18.wr W20 (Or.inl (List.mem_of_getElem? (i := 0) rfl))
          have V20 : OAL Z h20 ra .byte ((((vs.set ((Int32.ofNat on) + (0 : Int32)).toNatClampNeg (nar .byte ((((vv.toUInt64 >>> ((0 : Int32) &&& 0x3f).toInt64.toUInt64).toInt64).toInt32).toInt8.toInt32))).set ((Int32.ofNat on) + (1 : Int32)).toNatClampNeg (nar .byte ((((vv.toUInt64 >>> ((8 : Int32) &&& 0x3f).toInt64.toUInt64).toInt64).toInt32).toInt8.toInt32))).set ((Int32.ofNat on) + (2 : Int32)).toNatClampNeg (nar .byte ((((vv.toUInt64 >>> ((16 : Int32) &&& 0x3f).toInt64.toUInt64).toInt64).toInt32).toInt8.toInt32))).set ((Int32.ofNat on) + (3 : Int32)).toNatClampNeg (nar .byte ((((vv.toUInt64 >>> ((24 : Int32) &&& 0x3f).toInt64.toUInt64).toInt64).toInt32).toInt8.toInt32))) := A20
          refine OGo.on st20 ?_
          show OGo p e below s _ _ _ (T20.setTop (mkF m 25 #[.val (.ref ra), .val (.int (Int32.ofNat on)), .val (.long vv), .second, .val (.int (Int32.ofNat cn)), .val (.int (3 : Int32))] []))
          refine OGo.on (fun t k => XS.iinc Xh23.here hx rfl (hb hby d1_25) rfl (l' := #[.val (.ref ra), .val (.int (Int32.ofNat on)), .val (.long vv), .second, .val (.int (Int32.ofNat cn)), .val (.int (4 : Int32))]) rfl k) ?_
          show OGo p e below s _ _ _ (T20.setTop (mkF m 28 #[.val (.ref ra), .val (.int (Int32.ofNat on)), .val (.long vv), .second, .val (.int (Int32.ofNat cn)), .val (.int (4 : Int32))] []))
          refine OGo.on (fun t k => XS.goto Xh23.here hx rfl (pc0 := 28) (pc' := 3) rfl (hb hby d1_28) (by decide) (by decide) k) ?_
          show OGo p e below s _ _ _ (T20.setTop (mkF m 3 #[.val (.ref ra), .val (.int (Int32.ofNat on)), .val (.long vv), .second, .val (.int (Int32.ofNat cn)), .val (.int (4 : Int32))] []))
          refine OGo.on (fun t k => XS.iload Xh23.here hx rfl (hb hby d1_3) rfl k) ?_
          show OGo p e below s _ _ _ (T20.setTop (mkF m 5 #[.val (.ref ra), .val (.int (Int32.ofNat on)), .val (.long vv), .second, .val (.int (Int32.ofNat cn)), .val (.int (4 : Int32))] [(.int (4 : Int32))]))
          refine OGo.on (fun t k => XS.iload Xh23.here hx rfl (hb hby d1_5) rfl k) ?_
          show OGo p e below s _ _ _ (T20.setTop (mkF m 7 #[.val (.ref ra), .val (.int (Int32.ofNat on)), .val (.long vv), .second, .val (.int (Int32.ofNat cn)), .val (.int (4 : Int32))] [(.int (Int32.ofNat cn)), (.int (4 : Int32))]))
          by_cases hc25 : (4 : Int32) < (Int32.ofNat cn)
          · refine OGo.on (fun t k => XS.icmpNo Xh23.here hx rfl (hb hby d1_7) rfl (tlt hc25).2.1 k) ?_
            show OGo p e below s _ _ _ (T20.setTop (mkF m 10 #[.val (.ref ra), .val (.int (Int32.ofNat on)), .val (.long vv), .second, .val (.int (Int32.ofNat cn)), .val (.int (4 : Int32))] []))
            refine OGo.on (fun t k => XS.aloadN Xh23.here hx rfl (hb hby d1_10) rfl rfl k) ?_
            show OGo p e below s _ _ _ (T20.setTop (mkF m 11 #[.val (.ref ra), .val (.int (Int32.ofNat on)), .val (.long vv), .second, .val (.int (Int32.ofNat cn)), .val (.int (4 : Int32))] [(.ref ra)]))
            refine OGo.on (fun t k => XS.iloadN Xh23.here hx rfl (hb hby d1_11) rfl k) ?_
            show OGo p e below s _ _ _ (T20.setTop (mkF m 12 #[.val (.ref ra), .val (.int (Int32.ofNat on)), .val (.long vv), .second, .val (.int (Int32.ofNat cn)), .val (.int (4 : Int32))] [(.int (Int32.ofNat on)), (.ref ra)]))
            refine OGo.on (fun t k => XS.iload Xh23.here hx rfl (hb hby d1_12) rfl k) ?_
            show OGo p e below s _ _ _ (T20.setTop (mkF m 14 #[.val (.ref ra), .val (.int (Int32.ofNat on)), .val (.long vv), .second, .val (.int (Int32.ofNat cn)), .val (.int (4 : Int32))] [(.int (4 : Int32)), (.int (Int32.ofNat on)), (.ref ra)]))
            refine OGo.on (fun t k => XS.iadd Xh23.here hx rfl (hb hby d1_14) rfl k) ?_
            show OGo p e below s _ _ _ (T20.setTop (mkF m 15 #[.val (.ref ra), .val (.int (Int32.ofNat on)), .val (.long vv), .second, .val (.int (Int32.ofNat cn)), .val (.int (4 : Int32))] [(.int ((Int32.ofNat on) + (4 : Int32))), (.ref ra)]))
            refine OGo.on (fun t k => XS.lloadN Xh23.here hx rfl (hb hby d1_15) rfl k) ?_
            show OGo p e below s _ _ _ (T20.setTop (mkF m 16 #[.val (.ref ra), .val (.int (Int32.ofNat on)), .val (.long vv), .second, .val (.int (Int32.ofNat cn)), .val (.int (4 : Int32))] [(.long vv), (.int ((Int32.ofNat on) + (4 : Int32))), (.ref ra)]))
            refine OGo.on (fun t k => XS.bipush Xh23.here hx rfl (hb hby d1_16) k) ?_
            show OGo p e below s _ _ _ (T20.setTop (mkF m 18 #[.val (.ref ra), .val (.int (Int32.ofNat on)), .val (.long vv), .second, .val (.int (Int32.ofNat cn)), .val (.int (4 : Int32))] [(.int (8 : Int32)), (.long vv), (.int ((Int32.ofNat on) + (4 : Int32))), (.ref ra)]))
            refine OGo.on (fun t k => XS.iload Xh23.here hx rfl (hb hby d1_18) rfl k) ?_
            show OGo p e below s _ _ _ (T20.setTop (mkF m 20 #[.val (.ref ra), .val (.int (Int32.ofNat on)), .val (.long vv), .second, .val (.int (Int32.ofNat cn)), .val (.int (4 : Int32))] [(.int (4 : Int32)), (.int (8 : Int32)), (.long vv), (.int ((Int32.ofNat on) + (4 : Int32))), (.ref ra)]))
            refine OGo.on (fun t k => XS.imul Xh23.here hx rfl (hb hby d1_20) rfl k) ?_
            show OGo p e below s _ _ _ (T20.setTop (mkF m 21 #[.val (.ref ra), .val (.int (Int32.ofNat on)), .val (.long vv), .second, .val (.int (Int32.ofNat cn)), .val (.int (4 : Int32))] [(.int (32 : Int32)), (.long vv), (.int ((Int32.ofNat on) + (4 : Int32))), (.ref ra)]))
            refine OGo.on (fun t k => XS.lushr Xh23.here hx rfl (hb hby d1_21) rfl k) ?_
            show OGo p e below s _ _ _ (T20.setTop (mkF m 22 #[.val (.ref ra), .val (.int (Int32.ofNat on)), .val (.long vv), .second, .val (.int (Int32.ofNat cn)), .val (.int (4 : Int32))] [(.long ((vv.toUInt64 >>> ((32 : Int32) &&& 0x3f).toInt64.toUInt64).toInt64)), (.int ((Int32.ofNat on) + (4 : Int32))), (.ref ra)]))
            refine OGo.on (fun t k => XS.l2i Xh23.here hx rfl (hb hby d1_22) rfl k) ?_
            show OGo p e below s _ _ _ (T20.setTop (mkF m 23 #[.val (.ref ra), .val (.int (Int32.ofNat on)), .val (.long vv), .second, .val (.int (Int32.ofNat cn)), .val (.int (4 : Int32))] [(.int (((vv.toUInt64 >>> ((32 : Int32) &&& 0x3f).toInt64.toUInt64).toInt64).toInt32)), (.int ((Int32.ofNat on) + (4 : Int32))), (.ref ra)]))
            refine OGo.on (fun t k => XS.i2b Xh23.here hx rfl (hb hby d1_23) rfl k) ?_
            show OGo p e below s _ _ _ (T20.setTop (mkF m 24 #[.val (.ref ra), .val (.int (Int32.ofNat on)), .val (.long vv), .second, .val (.int (Int32.ofNat cn)), .val (.int (4 : Int32))] [(.int ((((vv.toUInt64 >>> ((32 : Int32) &&& 0x3f).toInt64.toUInt64).toInt64).toInt32).toInt8.toInt32)), (.int ((Int32.ofNat on) + (4 : Int32))), (.ref ra)]))
            obtain ⟨T26, h26, X26, e26, W26, A26, st26⟩ := OAL.stB Xh23 hx hZ e20 V20 (j := ((Int32.ofNat on) + (4 : Int32))) (x := ((((vv.toUInt64 >>> ((32 : Int32) &&& 0x3f).toInt64.toUInt64).toInt64).toInt32).toInt8.toInt32)) (own_idx2 (n := on) (k := 4) (by omega)).1 (by (try simp only [List.length_set]); rw [hl]; exact Nat.lt_of_le_of_lt (Nat.le_of_eq (own_idx2 (n := on) (k := 4) (by omega)).2) (by omega)) (Ls := #[.val (.ref ra), .val (.int (Int32.ofNat on)), .val (.long vv), .second, .val (.int (Int32.ofNat cn)), .val (.int (4 : Int32))]) (rest := []) (hb hby d1_24)
            have Z27 : n0 ≤ h26.size := Nat.le_trans Z21 (Nat.le_of_eq W26.size.symm)
            have N28 := Fr.snoc X26 Nh23 g_ra
            obtain ⟨Lh29, Xh29, Nh29⟩ := own_hide X26 N28
            have K30 : Keep h0 h26 [ra] := K24.wr W26 (Or.inl (List.mem_of_getElem? (i := 0) rfl))
            have V26 : OAL Z h26 ra .byte (((((vs.set ((Int32.ofNat on) + (0 : Int32)).toNatClampNeg (nar .byte ((((vv.toUInt64 >>> ((0 : Int32) &&& 0x3f).toInt64.toUInt64).toInt64).toInt32).toInt8.toInt32))).set ((Int32.ofNat on) + (1 : Int32)).toNatClampNeg (nar .byte ((((vv.toUInt64 >>> ((8 : Int32) &&& 0x3f).toInt64.toUInt64).toInt64).toInt32).toInt8.toInt32))).set ((Int32.ofNat on) + (2 : Int32)).toNatClampNeg (nar .byte ((((vv.toUInt64 >>> ((16 : Int32) &&& 0x3f).toInt64.toUInt64).toInt64).toInt32).toInt8.toInt32))).set ((Int32.ofNat on) + (3 : Int32)).toNatClampNeg (nar .byte ((((vv.toUInt64 >>> ((24 : Int32) &&& 0x3f).toInt64.toUInt64).toInt64).toInt32).toInt8.toInt32))).set ((Int32.ofNat on) + (4 : Int32)).toNatClampNeg (nar .byte ((((vv.toUInt64 >>> ((32 : Int32) &&& 0x3f).toInt64.toUInt64).toInt64).toInt32).toInt8.toInt32))) := A26
            refine OGo.on st26 ?_
            show OGo p e below s _ _ _ (T26.setTop (mkF m 25 #[.val (.ref ra), .val (.int (Int32.ofNat on)), .val (.long vv), .second, .val (.int (Int32.ofNat cn)), .val (.int (4 : Int32))] []))
            refine OGo.on (fun t k => XS.iinc Xh29.here hx rfl (hb hby d1_25) rfl (l' := #[.val (.ref ra), .val (.int (Int32.ofNat on)), .val (.long vv), .second, .val (.int (Int32.ofNat cn)), .val (.int (5 : Int32))]) rfl k) ?_
            show OGo p e below s _ _ _ (T26.setTop (mkF m 28 #[.val (.ref ra), .val (.int (Int32.ofNat on)), .val (.long vv), .second, .val (.int (Int32.ofNat cn)), .val (.int (5 : Int32))] []))
            refine OGo.on (fun t k => XS.goto Xh29.here hx rfl (pc0 := 28) (pc' := 3) rfl (hb hby d1_28) (by decide) (by decide) k) ?_
            show OGo p e below s _ _ _ (T26.setTop (mkF m 3 #[.val (.ref ra), .val (.int (Int32.ofNat on)), .val (.long vv), .second, .val (.int (Int32.ofNat cn)), .val (.int (5 : Int32))] []))
            refine OGo.on (fun t k => XS.iload Xh29.here hx rfl (hb hby d1_3) rfl k) ?_
            show OGo p e below s _ _ _ (T26.setTop (mkF m 5 #[.val (.ref ra), .val (.int (Int32.ofNat on)), .val (.long vv), .second, .val (.int (Int32.ofNat cn)), .val (.int (5 : Int32))] [(.int (5 : Int32))]))
            refine OGo.on (fun t k => XS.iload Xh29.here hx rfl (hb hby d1_5) rfl k) ?_
            show OGo p e below s _ _ _ (T26.setTop (mkF m 7 #[.val (.ref ra), .val (.int (Int32.ofNat on)), .val (.long vv), .second, .val (.int (Int32.ofNat cn)), .val (.int (5 : Int32))] [(.int (Int32.ofNat cn)), (.int (5 : Int32))]))
            by_cases hc31 : (5 : Int32) < (Int32.ofNat cn)
            · refine OGo.on (fun t k => XS.icmpNo Xh29.here hx rfl (hb hby d1_7) rfl (tlt hc31).2.1 k) ?_
              show OGo p e below s _ _ _ (T26.setTop (mkF m 10 #[.val (.ref ra), .val (.int (Int32.ofNat on)), .val (.long vv), .second, .val (.int (Int32.ofNat cn)), .val (.int (5 : Int32))] []))
              refine OGo.on (fun t k => XS.aloadN Xh29.here hx rfl (hb hby d1_10) rfl rfl k) ?_
              show OGo p e below s _ _ _ (T26.setTop (mkF m 11 #[.val (.ref ra), .val (.int (Int32.ofNat on)), .val (.long vv), .second, .val (.int (Int32.ofNat cn)), .val (.int (5 : Int32))] [(.ref ra)]))
              refine OGo.on (fun t k => XS.iloadN Xh29.here hx rfl (hb hby d1_11) rfl k) ?_
              show OGo p e below s _ _ _ (T26.setTop (mkF m 12 #[.val (.ref ra), .val (.int (Int32.ofNat on)), .val (.long vv), .second, .val (.int (Int32.ofNat cn)), .val (.int (5 : Int32))] [(.int (Int32.ofNat on)), (.ref ra)]))
              refine OGo.on (fun t k => XS.iload Xh29.here hx rfl (hb hby d1_12) rfl k) ?_
              show OGo p e below s _ _ _ (T26.setTop (mkF m 14 #[.val (.ref ra), .val (.int (Int32.ofNat on)), .val (.long vv), .second, .val (.int (Int32.ofNat cn)), .val (.int (5 : Int32))] [(.int (5 : Int32)), (.int (Int32.ofNat on)), (.ref ra)]))
              refine OGo.on (fun t k => XS.iadd Xh29.here hx rfl (hb hby d1_14) rfl k) ?_
              show OGo p e below s _ _ _ (T26.setTop (mkF m 15 #[.val (.ref ra), .val (.int (Int32.ofNat on)), .val (.long vv), .second, .val (.int (Int32.ofNat cn)), .val (.int (5 : Int32))] [(.int ((Int32.ofNat on) + (5 : Int32))), (.ref ra)]))
              refine OGo.on (fun t k => XS.lloadN Xh29.here hx rfl (hb hby d1_15) rfl k) ?_
              show OGo p e below s _ _ _ (T26.setTop (mkF m 16 #[.val (.ref ra), .val (.int (Int32.ofNat on)), .val (.long vv), .second, .val (.int (Int32.ofNat cn)), .val (.int (5 : Int32))] [(.long vv), (.int ((Int32.ofNat on) + (5 : Int32))), (.ref ra)]))
              refine OGo.on (fun t k => XS.bipush Xh29.here hx rfl (hb hby d1_16) k) ?_
              show OGo p e below s _ _ _ (T26.setTop (mkF m 18 #[.val (.ref ra), .val (.int (Int32.ofNat on)), .val (.long vv), .second, .val (.int (Int32.ofNat cn)), .val (.int (5 : Int32))] [(.int (8 : Int32)), (.long vv), (.int ((Int32.ofNat on) + (5 : Int32))), (.ref ra)]))
              refine OGo.on (fun t k => XS.iload Xh29.here hx rfl (hb hby d1_18) rfl k) ?_
              show OGo p e below s _ _ _ (T26.setTop (mkF m 20 #[.val (.ref ra), .val (.int (Int32.ofNat on)), .val (.long vv), .second, .val (.int (Int32.ofNat cn)), .val (.int (5 : Int32))] [(.int (5 : Int32)), (.int (8 : Int32)), (.long vv), (.int ((Int32.ofNat on) + (5 : Int32))), (.ref ra)]))
              refine OGo.on (fun t k => XS.imul Xh29.here hx rfl (hb hby d1_20) rfl k) ?_
              show OGo p e below s _ _ _ (T26.setTop (mkF m 21 #[.val (.ref ra), .val (.int (Int32.ofNat on)), .val (.long vv), .second, .val (.int (Int32.ofNat cn)), .val (.int (5 : Int32))] [(.int (40 : Int32)), (.long vv), (.int ((Int32.ofNat on) + (5 : Int32))), (.ref ra)]))
              refine OGo.on (fun t k => XS.lushr Xh29.here hx rfl (hb hby d1_21) rfl k) ?_
              show OGo p e below s _ _ _ (T26.setTop (mkF m 22 #[.val (.ref ra), .val (.int (Int32.ofNat on)), .val (.long vv), .second, .val (.int (Int32.ofNat cn)), .val (.int (5 : Int32))] [(.long ((vv.toUInt64 >>> ((40 : Int32) &&& 0x3f).toInt64.toUInt64).toInt64)), (.int ((Int32.ofNat on) + (5 : Int32))), (.ref ra)]))
              refine OGo.on (fun t k => XS.l2i Xh29.here hx rfl (hb hby d1_22) rfl k) ?_
              show OGo p e below s _ _ _ (T26.setTop (mkF m 23 #[.val (.ref ra), .val (.int (Int32.ofNat on)), .val (.long vv), .second, .val (.int (Int32.ofNat cn)), .val (.int (5 : Int32))] [(.int (((vv.toUInt64 >>> ((40 : Int32) &&& 0x3f).toInt64.toUInt64).toInt64).toInt32)), (.int ((Int32.ofNat on) + (5 : Int32))), (.ref ra)]))
              refine OGo.on (fun t k => XS.i2b Xh29.here hx rfl (hb hby d1_23) rfl k) ?_
              show OGo p e below s _ _ _ (T26.setTop (mkF m 24 #[.val (.ref ra), .val (.int (Int32.ofNat on)), .val (.long vv), .second, .val (.int (Int32.ofNat cn)), .val (.int (5 : Int32))] [(.int ((((vv.toUInt64 >>> ((40 : Int32) &&& 0x3f).toInt64.toUInt64).toInt64).toInt32).toInt8.toInt32)), (.int ((Int32.ofNat on) + (5 : Int32))), (.ref ra)]))
              obtain ⟨T32, h32, X32, e32, W32, A32, st32⟩ := OAL.stB Xh29 hx hZ e26 V26 (j := ((Int32.ofNat on) + (5 : Int32))) (x := ((((vv.toUInt64 >>> ((40 : Int32) &&& 0x3f).toInt64.toUInt64).toInt64).toInt32).toInt8.toInt32)) (own_idx2 (n := on) (k := 5) (by omega)).1 (by (try simp only [List.length_set]); rw [hl]; exact Nat.lt_of_le_of_lt (Nat.le_of_eq (own_idx2 (n := on) (k := 5) (by omega)).2) (by omega)) (Ls := #[.val (.ref ra), .val (.int (Int32.ofNat on)), .val (.long vv), .second, .val (.int (Int32.ofNat cn)), .val (.int (5 : Int32))]) (rest := []) (hb hby d1_24)
              have Z33 : n0 ≤ h32.size := Nat.le_trans Z27 (Nat.le_of_eq W32.size.symm)
              have N34 := Fr.snoc X32 Nh29 g_ra
              obtain ⟨Lh35, Xh35, Nh35⟩ := own_hide X32 N34
              have K36 : Keep h0 h32 [ra] := K30.wr W32 (Or.inl (List.mem_of_getElem? (i := 0) rfl))
              have V32 : OAL Z h32 ra .byte ((((((vs.set ((Int32.ofNat on) + (0 : Int32)).toNatClampNeg (nar .byte ((((vv.toUInt64 >>> ((0 : Int32) &&& 0x3f).toInt64.toUInt64).toInt64).toInt32).toInt8.toInt32))).set ((Int32.ofNat on) + (1 : Int32)).toNatClampNeg (nar .byte ((((vv.toUInt64 >>> ((8 : Int32) &&& 0x3f).toInt64.toUInt64).toInt64).toInt32).toInt8.toInt32))).set ((Int32.ofNat on) + (2 : Int32)).toNatClampNeg (nar .byte ((((vv.toUInt64 >>> ((16 : Int32) &&& 0x3f).toInt64.toUInt64).toInt64).toInt32).toInt8.toInt32))).set ((Int32.ofNat on) + (3 : Int32)).toNatClampNeg (nar .byte ((((vv.toUInt64 >>> ((24 : Int32) &&& 0x3f).toInt64.toUInt64).toInt64).toInt32).toInt8.toInt32))).set ((Int32.ofNat on) + (4 : Int32)).toNatClampNeg (nar .byte ((((vv.toUInt64 >>> ((32 : Int32) &&& 0x3f).toInt64.toUInt64).toInt64).toInt32).toInt8.toInt32))).set ((Int32.ofNat on) + (5 : Int32)).toNatClampNeg (nar .byte ((((vv.toUInt64 >>> ((40 : Int32) &&& 0x3f).toInt64.toUInt64).toInt64).toInt32).toInt8.toInt32))) := A32
              refine OGo.on st32 ?_
              show OGo p e below s _ _ _ (T32.setTop (mkF m 25 #[.val (.ref ra), .val (.int (Int32.ofNat on)), .val (.long vv), .second, .val (.int (Int32.ofNat cn)), .val (.int (5 : Int32))] []))
              refine OGo.on (fun t k => XS.iinc Xh35.here hx rfl (hb hby d1_25) rfl (l' := #[.val (.ref ra), .val (.int (Int32.ofNat on)), .val (.long vv), .second, .val (.int (Int32.ofNat cn)), .val (.int (6 : Int32))]) rfl k) ?_
              show OGo p e below s _ _ _ (T32.setTop (mkF m 28 #[.val (.ref ra), .val (.int (Int32.ofNat on)), .val (.long vv), .second, .val (.int (Int32.ofNat cn)), .val (.int (6 : Int32))] []))
              refine OGo.on (fun t k => XS.goto Xh35.here hx rfl (pc0 := 28) (pc' := 3) rfl (hb hby d1_28) (by decide) (by decide) k) ?_
              show OGo p e below s _ _ _ (T32.setTop (mkF m 3 #[.val (.ref ra), .val (.int (Int32.ofNat on)), .val (.long vv), .second, .val (.int (Int32.ofNat cn)), .val (.int (6 : Int32))] []))
              refine OGo.on (fun t k => XS.iload Xh35.here hx rfl (hb hby d1_3) rfl k) ?_
              show OGo p e below s _ _ _ (T32.setTop (mkF m 5 #[.val (.ref ra), .val (.int (Int32.ofNat on)), .val (.long vv), .second, .val (.int (Int32.ofNat cn)), .val (.int (6 : Int32))] [(.int (6 : Int32))]))
              refine OGo.on (fun t k => XS.iload Xh35.here hx rfl (hb hby d1_5) rfl k) ?_
              show OGo p e below s _ _ _ (T32.setTop (mkF m 7 #[.val (.ref ra), .val (.int (Int32.ofNat on)), .val (.long vv), .second, .val (.int (Int32.ofNat cn)), .val (.int (6 : Int32))] [(.int (Int32.ofNat cn)), (.int (6 : Int32))]))
              by_cases hc37 : (6 : Int32) < (Int32.ofNat cn)
              · refine OGo.on (fun t k => XS.icmpNo Xh35.here hx rfl (hb hby d1_7) rfl (tlt hc37).2.1 k) ?_
                show OGo p e below s _ _ _ (T32.setTop (mkF m 10 #[.val (.ref ra), .val (.int (Int32.ofNat on)), .val (.long vv), .second, .val (.int (Int32.ofNat cn)), .val (.int (6 : Int32))] []))
                refine OGo.on (fun t k => XS.aloadN Xh35.here hx rfl (hb hby d1_10) rfl rfl k) ?_
                show OGo p e below s _ _ _ (T32.setTop (mkF m 11 #[.val (.ref ra), .val (.int (Int32.ofNat on)), .val (.long vv), .second, .val (.int (Int32.ofNat cn)), .val (.int (6 : Int32))] [(.ref ra)]))
                refine OGo.on (fun t k => XS.iloadN Xh35.here hx rfl (hb hby d1_11) rfl k) ?_
                show OGo p e below s _ _ _ (T32.setTop (mkF m 12 #[.val (.ref ra), .val (.int (Int32.ofNat on)), .val (.long vv), .second, .val (.int (Int32.ofNat cn)), .val (.int (6 : Int32))] [(.int (Int32.ofNat on)), (.ref ra)]))
                refine OGo.on (fun t k => XS.iload Xh35.here hx rfl (hb hby d1_12) rfl k) ?_
                show OGo p e below s _ _ _ (T32.setTop (mkF m 14 #[.val (.ref ra), .val (.int (Int32.ofNat on)), .val (.long vv), .second, .val (.int (Int32.ofNat cn)), .val (.int (6 : Int32))] [(.int (6 : Int32)), (.int (Int32.ofNat on)), (.ref ra)]))
                refine OGo.on (fun t k => XS.iadd Xh35.here hx rfl (hb hby d1_14) rfl k) ?_
                show OGo p e below s _ _ _ (T32.setTop (mkF m 15 #[.val (.ref ra), .val (.int (Int32.ofNat on)), .val (.long vv), .second, .val (.int (Int32.ofNat cn)), .val (.int (6 : Int32))] [(.int ((Int32.ofNat on) + (6 : Int32))), (.ref ra)]))
                refine OGo.on (fun t k => XS.lloadN Xh35.here hx rfl (hb hby d1_15) rfl k) ?_
                show OGo p e below s _ _ _ (T32.setTop (mkF m 16 #[.val (.ref ra), .val (.int (Int32.ofNat on)), .val (.long vv), .second, .val (.int (Int32.ofNat cn)), .val (.int (6 : Int32))] [(.long vv), (.int ((Int32.ofNat on) + (6 : Int32))), (.ref ra)]))
                refine OGo.on (fun t k => XS.bipush Xh35.here hx rfl (hb hby d1_16) k) ?_
                show OGo p e below s _ _ _ (T32.setTop (mkF m 18 #[.val (.ref ra), .val (.int (Int32.ofNat on)), .val (.long vv), .second, .val (.int (Int32.ofNat cn)), .val (.int (6 : Int32))] [(.int (8 : Int32)), (.long vv), (.int ((Int32.ofNat on) + (6 : Int32))), (.ref ra)]))
                refine OGo.on (fun t k => XS.iload Xh35.here hx rfl (hb hby d1_18) rfl k) ?_
                show OGo p e below s _ _ _ (T32.setTop (mkF m 20 #[.val (.ref ra), .val (.int (Int32.ofNat on)), .val (.long vv), .second, .val (.int (Int32.ofNat cn)), .val (.int (6 : Int32))] [(.int (6 : Int32)), (.int (8 : Int32)), (.long vv), (.int ((Int32.ofNat on) + (6 : Int32))), (.ref ra)]))
                refine OGo.on (fun t k => XS.imul Xh35.here hx rfl (hb hby d1_20) rfl k) ?_
                show OGo p e below s _ _ _ (T32.setTop (mkF m 21 #[.val (.ref ra), .val (.int (Int32.ofNat on)), .val (.long vv), .second, .val (.int (Int32.ofNat cn)), .val (.int (6 : Int32))] [(.int (48 : Int32)), (.long vv), (.int ((Int32.ofNat on) + (6 : Int32))), (.ref ra)]))
                refine OGo.on (fun t k => XS.lushr Xh35.here hx rfl (hb hby d1_21) rfl k) ?_
                show OGo p e below s _ _ _ (T32.setTop (mkF m 22 #[.val (.ref ra), .val (.int (Int32.ofNat on)), .val (.long vv), .second, .val (.int (Int32.ofNat cn)), .val (.int (6 : Int32))] [(.long ((vv.toUInt64 >>> ((48 : Int32) &&& 0x3f).toInt64.toUInt64).toInt64)), (.int ((Int32.ofNat on) + (6 : Int32))), (.ref ra)]))
                refine OGo.on (fun t k => XS.l2i Xh35.here hx rfl (hb hby d1_22) rfl k) ?_
                show OGo p e below s _ _ _ (T32.setTop (mkF m 23 #[.val (.ref ra), .val (.int (Int32.ofNat on)), .val (.long vv), .second, .val (.int (Int32.ofNat cn)), .val (.int (6 : Int32))] [(.int (((vv.toUInt64 >>> ((48 : Int32) &&& 0x3f).toInt64.toUInt64).toInt64).toInt32)), (.int ((Int32.ofNat on) + (6 : Int32))), (.ref ra)]))
                refine OGo.on (fun t k => XS.i2b Xh35.here hx rfl (hb hby d1_23) rfl k) ?_
                show OGo p e below s _ _ _ (T32.setTop (mkF m 24 #[.val (.ref ra), .val (.int (Int32.ofNat on)), .val (.long vv), .second, .val (.int (Int32.ofNat cn)), .val (.int (6 : Int32))] [(.int ((((vv.toUInt64 >>> ((48 : Int32) &&& 0x3f).toInt64.toUInt64).toInt64).toInt32).toInt8.toInt32)), (.int ((Int32.ofNat on) + (6 : Int32))), (.ref ra)]))
                obtain ⟨T38, h38, X38, e38, W38, A38, st38⟩ := OAL.stB Xh35 hx hZ e32 V32 (j := ((Int32.ofNat on) + (6 : Int32))) (x := ((((vv.toUInt64 >>> ((48 : Int32) &&& 0x3f).toInt64.toUInt64).toInt64).toInt32).toInt8.toInt32)) (own_idx2 (n := on) (k := 6) (by omega)).1 (by (try simp only [List.length_set]); rw [hl]; exact Nat.lt_of_le_of_lt (Nat.le_of_eq (own_idx2 (n := on) (k := 6) (by omega)).2) (by omega)) (Ls := #[.val (.ref ra), .val (.int (Int32.ofNat on)), .val (.long vv), .second, .val (.int (Int32.ofNat cn)), .val (.int (6 : Int32))]) (rest := []) (hb hby d1_24)
                have Z39 : n0 ≤ h38.size := Nat.le_trans Z33 (Nat.le_of_eq W38.size.symm)
                have N40 := Fr.snoc X38 Nh35 g_ra
                obtain ⟨Lh41, Xh41, Nh41⟩ := own_hide X38 N40
                have K42 : Keep h0 h38 [ra] := K36.wr W38 (Or.inl (List.mem_of_getElem? (i := 0) rfl))
                have V38 : OAL Z h38 ra .byte (((((((vs.set ((Int32.ofNat on) + (0 : Int32)).toNatClampNeg (nar .byte ((((vv.toUInt64 >>> ((0 : Int32) &&& 0x3f).toInt64.toUInt64).toInt64).toInt32).toInt8.toInt32))).set ((Int32.ofNat on) + (1 : Int32)).toNatClampNeg (nar .byte ((((vv.toUInt64 >>> ((8 : Int32) &&& 0x3f).toInt64.toUInt64).toInt64).toInt32).toInt8.toInt32))).set ((Int32.ofNat on) + (2 : Int32)).toNatClampNeg (nar .byte ((((vv.toUInt64 >>> ((16 : Int32) &&& 0x3f).toInt64.toUInt64).toInt64).toInt32).toInt8.toInt32))).set ((Int32.ofNat on) + (3 : Int32)).toNatClampNeg (nar .byte ((((vv.toUInt64 >>> ((24 : Int32) &&& 0x3f).toInt64.toUInt64).toInt64).toInt32).toInt8.toInt32))).set ((Int32.ofNat on) + (4 : Int32)).toNatClampNeg (nar .byte ((((vv.toUInt64 >>> ((32 : Int32) &&& 0x3f).toInt64.toUInt64).toInt64).toInt32).toInt8.toInt32))).set ((Int32.ofNat on) + (5 : Int32)).toNatClampNeg (nar .byte ((((vv.toUInt64 >>> ((40 : Int32) &&& 0x3f).toInt64.toUInt64).toInt64).toInt32).toInt8.toInt32))).set ((Int32.ofNat on) + (6 : Int32)).toNatClampNeg (nar .byte ((((vv.toUInt64 >>> ((48 : Int32) &&& 0x3f).toInt64.toUInt64).toInt64).toInt32).toInt8.toInt32))) := A38
                refine OGo.on st38 ?_
                show OGo p e below s _ _ _ (T38.setTop (mkF m 25 #[.val (.ref ra), .val (.int (Int32.ofNat on)), .val (.long vv), .second, .val (.int (Int32.ofNat cn)), .val (.int (6 : Int32))] []))
                refine OGo.on (fun t k => XS.iinc Xh41.here hx rfl (hb hby d1_25) rfl (l' := #[.val (.ref ra), .val (.int (Int32.ofNat on)), .val (.long vv), .second, .val (.int (Int32.ofNat cn)), .val (.int (7 : Int32))]) rfl k) ?_
                show OGo p e below s _ _ _ (T38.setTop (mkF m 28 #[.val (.ref ra), .val (.int (Int32.ofNat on)), .val (.long vv), .second, .val (.int (Int32.ofNat cn)), .val (.int (7 : Int32))] []))
                refine OGo.on (fun t k => XS.goto Xh41.here hx rfl (pc0 := 28) (pc' := 3) rfl (hb hby d1_28) (by decide) (by decide) k) ?_
                show OGo p e below s _ _ _ (T38.setTop (mkF m 3 #[.val (.ref ra), .val (.int (Int32.ofNat on)), .val (.long vv), .second, .val (.int (Int32.ofNat cn)), .val (.int (7 : Int32))] []))
                refine OGo.on (fun t k => XS.iload Xh41.here hx rfl (hb hby d1_3) rfl k) ?_
                show OGo p e below s _ _ _ (T38.setTop (mkF m 5 #[.val (.ref ra), .val (.int (Int32.ofNat on)), .val (.long vv), .second, .val (.int (Int32.ofNat cn)), .val (.int (7 : Int32))] [(.int (7 : Int32))]))
                refine OGo.on (fun t k => XS.iload Xh41.here hx rfl (hb hby d1_5) rfl k) ?_
                show OGo p e below s _ _ _ (T38.setTop (mkF m 7 #[.val (.ref ra), .val (.int (Int32.ofNat on)), .val (.long vv), .second, .val (.int (Int32.ofNat cn)), .val (.int (7 : Int32))] [(.int (Int32.ofNat cn)), (.int (7 : Int32))]))
                by_cases hc43 : (7 : Int32) < (Int32.ofNat cn)
                · refine OGo.on (fun t k => XS.icmpNo Xh41.here hx rfl (hb hby d1_7) rfl (tlt hc43).2.1 k) ?_
                  show OGo p e below s _ _ _ (T38.setTop (mkF m 10 #[.val (.ref ra), .val (.int (Int32.ofNat on)), .val (.long vv), .second, .val (.int (Int32.ofNat cn)), .val (.int (7 : Int32))] []))
                  refine OGo.on (fun t k => XS.aloadN Xh41.here hx rfl (hb hby d1_10) rfl rfl k) ?_
                  show OGo p e below s _ _ _ (T38.setTop (mkF m 11 #[.val (.ref ra), .val (.int (Int32.ofNat on)), .val (.long vv), .second, .val (.int (Int32.ofNat cn)), .val (.int (7 : Int32))] [(.ref ra)]))
                  refine OGo.on (fun t k => XS.iloadN Xh41.here hx rfl (hb hby d1_11) rfl k) ?_
                  show OGo p e below s _ _ _ (T38.setTop (mkF m 12 #[.val (.ref ra), .val (.int (Int32.ofNat on)), .val (.long vv), .second, .val (.int (Int32.ofNat cn)), .val (.int (7 : Int32))] [(.int (Int32.ofNat on)), (.ref ra)]))
                  refine OGo.on (fun t k => XS.iload Xh41.here hx rfl (hb hby d1_12) rfl k) ?_
                  show OGo p e below s _ _ _ (T38.setTop (mkF m 14 #[.val (.ref ra), .val (.int (Int32.ofNat on)), .val (.long vv), .second, .val (.int (Int32.ofNat cn)), .val (.int (7 : Int32))] [(.int (7 : Int32)), (.int (Int32.ofNat on)), (.ref ra)]))
                  refine OGo.on (fun t k => XS.iadd Xh41.here hx rfl (hb hby d1_14) rfl k) ?_
                  show OGo p e below s _ _ _ (T38.setTop (mkF m 15 #[.val (.ref ra), .val (.int (Int32.ofNat on)), .val (.long vv), .second, .val (.int (Int32.ofNat cn)), .val (.int (7 : Int32))] [(.int ((Int32.ofNat on) + (7 : Int32))), (.ref ra)]))
                  refine OGo.on (fun t k => XS.lloadN Xh41.here hx rfl (hb hby d1_15) rfl k) ?_
                  show OGo p e below s _ _ _ (T38.setTop (mkF m 16 #[.val (.ref ra), .val (.int (Int32.ofNat on)), .val (.long vv), .second, .val (.int (Int32.ofNat cn)), .val (.int (7 : Int32))] [(.long vv), (.int ((Int32.ofNat on) + (7 : Int32))), (.ref ra)]))
                  refine OGo.on (fun t k => XS.bipush Xh41.here hx rfl (hb hby d1_16) k) ?_
                  show OGo p e below s _ _ _ (T38.setTop (mkF m 18 #[.val (.ref ra), .val (.int (Int32.ofNat on)), .val (.long vv), .second, .val (.int (Int32.ofNat cn)), .val (.int (7 : Int32))] [(.int (8 : Int32)), (.long vv), (.int ((Int32.ofNat on) + (7 : Int32))), (.ref ra)]))
                  refine OGo.on (fun t k => XS.iload Xh41.here hx rfl (hb hby d1_18) rfl k) ?_
                  show OGo p e below s _ _ _ (T38.setTop (mkF m 20 #[.val (.ref ra), .val (.int (Int32.ofNat on)), .val (.long vv), .second, .val (.int (Int32.ofNat cn)), .val (.int (7 : Int32))] [(.int (7 : Int32)), (.int (8 : Int32)), (.long vv), (.int ((Int32.ofNat on) + (7 : Int32))), (.ref ra)]))
                  refine OGo.on (fun t k => XS.imul Xh41.here hx rfl (hb hby d1_20) rfl k) ?_
                  show OGo p e below s _ _ _ (T38.setTop (mkF m 21 #[.val (.ref ra), .val (.int (Int32.ofNat on)), .val (.long vv), .second, .val (.int (Int32.ofNat cn)), .val (.int (7 : Int32))] [(.int (56 : Int32)), (.long vv), (.int ((Int32.ofNat on) + (7 : Int32))), (.ref ra)]))
                  refine OGo.on (fun t k => XS.lushr Xh41.here hx rfl (hb hby d1_21) rfl k) ?_
                  show OGo p e below s _ _ _ (T38.setTop (mkF m 22 #[.val (.ref ra), .val (.int (Int32.ofNat on)), .val (.long vv), .second, .val (.int (Int32.ofNat cn)), .val (.int (7 : Int32))] [(.long ((vv.toUInt64 >>> ((56 : Int32) &&& 0x3f).toInt64.toUInt64).toInt64)), (.int ((Int32.ofNat on) + (7 : Int32))), (.ref ra)]))
                  refine OGo.on (fun t k => XS.l2i Xh41.here hx rfl (hb hby d1_22) rfl k) ?_
                  show OGo p e below s _ _ _ (T38.setTop (mkF m 23 #[.val (.ref ra), .val (.int (Int32.ofNat on)), .val (.long vv), .second, .val (.int (Int32.ofNat cn)), .val (.int (7 : Int32))] [(.int (((vv.toUInt64 >>> ((56 : Int32) &&& 0x3f).toInt64.toUInt64).toInt64).toInt32)), (.int ((Int32.ofNat on) + (7 : Int32))), (.ref ra)]))
                  refine OGo.on (fun t k => XS.i2b Xh41.here hx rfl (hb hby d1_23) rfl k) ?_
                  show OGo p e below s _ _ _ (T38.setTop (mkF m 24 #[.val (.ref ra), .val (.int (Int32.ofNat on)), .val (.long vv), .second, .val (.int (Int32.ofNat cn)), .val (.int (7 : Int32))] [(.int ((((vv.toUInt64 >>> ((56 : Int32) &&& 0x3f).toInt64.toUInt64).toInt64).toInt32).toInt8.toInt32)), (.int ((Int32.ofNat on) + (7 : Int32))), (.ref ra)]))
                  obtain ⟨T44, h44, X44, e44, W44, A44, st44⟩ := OAL.stB Xh41 hx hZ e38 V38 (j := ((Int32.ofNat on) + (7 : Int32))) (x := ((((vv.toUInt64 >>> ((56 : Int32) &&& 0x3f).toInt64.toUInt64).toInt64).toInt32).toInt8.toInt32)) (own_idx2 (n := on) (k := 7) (by omega)).1 (by (try simp only [List.length_set]); rw [hl]; exact Nat.lt_of_le_of_lt (Nat.le_of_eq (own_idx2 (n := on) (k := 7) (by omega)).2) (by omega)) (Ls := #[.val (.ref ra), .val (.int (Int32.ofNat on)), .val (.long vv), .second, .val (.int (Int32.ofNat cn)), .val (.int (7 : Int32))]) (rest := []) (hb hby d1_24)
                  have Z45 : n0 ≤ h44.size := Nat.le_trans Z39 (Nat.le_of_eq W44.size.symm)
                  have N46 := Fr.snoc X44 Nh41 g_ra
                  obtain ⟨Lh47, Xh47, Nh47⟩ := own_hide X44 N46
                  have K48 : Keep h0 h44 [ra] := K42.wr W44 (Or.inl (List.mem_of_getElem? (i := 0) rfl))
                  have V44 : OAL Z h44 ra .byte ((((((((vs.set ((Int32.ofNat on) + (0 : Int32)).toNatClampNeg (nar .byte ((((vv.toUInt64 >>> ((0 : Int32) &&& 0x3f).toInt64.toUInt64).toInt64).toInt32).toInt8.toInt32))).set ((Int32.ofNat on) + (1 : Int32)).toNatClampNeg (nar .byte ((((vv.toUInt64 >>> ((8 : Int32) &&& 0x3f).toInt64.toUInt64).toInt64).toInt32).toInt8.toInt32))).set ((Int32.ofNat on) + (2 : Int32)).toNatClampNeg (nar .byte ((((vv.toUInt64 >>> ((16 : Int32) &&& 0x3f).toInt64.toUInt64).toInt64).toInt32).toInt8.toInt32))).set ((Int32.ofNat on) + (3 : Int32)).toNatClampNeg (nar .byte ((((vv.toUInt64 >>> ((24 : Int32) &&& 0x3f).toInt64.toUInt64).toInt64).toInt32).toInt8.toInt32))).set ((Int32.ofNat on) + (4 : Int32)).toNatClampNeg (nar .byte ((((vv.toUInt64 >>> ((32 : Int32) &&& 0x3f).toInt64.toUInt64).toInt64).toInt32).toInt8.toInt32))).set ((Int32.ofNat on) + (5 : Int32)).toNatClampNeg (nar .byte ((((vv.toUInt64 >>> ((40 : Int32) &&& 0x3f).toInt64.toUInt64).toInt64).toInt32).toInt8.toInt32))).set ((Int32.ofNat on) + (6 : Int32)).toNatClampNeg (nar .byte ((((vv.toUInt64 >>> ((48 : Int32) &&& 0x3f).toInt64.toUInt64).toInt64).toInt32).toInt8.toInt32))).set ((Int32.ofNat on) + (7 : Int32)).toNatClampNeg (nar .byte ((((vv.toUInt64 >>> ((56 : Int32) &&& 0x3f).toInt64.toUInt64).toInt64).toInt32).toInt8.toInt32))) := A44
                  refine OGo.on st44 ?_
                  show OGo p e below s _ _ _ (T44.setTop (mkF m 25 #[.val (.ref ra), .val (.int (Int32.ofNat on)), .val (.long vv), .second, .val (.int (Int32.ofNat cn)), .val (.int (7 : Int32))] []))
                  refine OGo.on (fun t k => XS.iinc Xh47.here hx rfl (hb hby d1_25) rfl (l' := #[.val (.ref ra), .val (.int (Int32.ofNat on)), .val (.long vv), .second, .val (.int (Int32.ofNat cn)), .val (.int (8 : Int32))]) rfl k) ?_
                  show OGo p e below s _ _ _ (T44.setTop (mkF m 28 #[.val (.ref ra), .val (.int (Int32.ofNat on)), .val (.long vv), .second, .val (.int (Int32.ofNat cn)), .val (.int (8 : Int32))] []))
                  refine OGo.on (fun t k => XS.goto Xh47.here hx rfl (pc0 := 28) (pc' := 3) rfl (hb hby d1_28) (by decide) (by decide) k) ?_
                  show OGo p e below s _ _ _ (T44.setTop (mkF m 3 #[.val (.ref ra), .val (.int (Int32.ofNat on)), .val (.long vv), .second, .val (.int (Int32.ofNat cn)), .val (.int (8 : Int32))] []))
                  refine OGo.on (fun t k => XS.iload Xh47.here hx rfl (hb hby d1_3) rfl k) ?_
                  show OGo p e below s _ _ _ (T44.setTop (mkF m 5 #[.val (.ref ra), .val (.int (Int32.ofNat on)), .val (.long vv), .second, .val (.int (Int32.ofNat cn)), .val (.int (8 : Int32))] [(.int (8 : Int32))]))
                  refine OGo.on (fun t k => XS.iload Xh47.here hx rfl (hb hby d1_5) rfl k) ?_
                  show OGo p e below s _ _ _ (T44.setTop (mkF m 7 #[.val (.ref ra), .val (.int (Int32.ofNat on)), .val (.long vv), .second, .val (.int (Int32.ofNat cn)), .val (.int (8 : Int32))] [(.int (Int32.ofNat cn)), (.int (8 : Int32))]))
                  refine OGo.on (fun t k => XS.icmpYes Xh47.here hx rfl (pc0 := 7) (pc' := 31) rfl (hb hby d1_7) rfl (flt (own_no8 hcn)).2.1 (by decide) (by decide) k) ?_
                  show OGo p e below s _ _ _ (T44.setTop (mkF m 31 #[.val (.ref ra), .val (.int (Int32.ofNat on)), .val (.long vv), .second, .val (.int (Int32.ofNat cn)), .val (.int (8 : Int32))] []))
                  exact OGo.ret0 Xh47 hx hret hlk (hb hby d1_31) (by have hk : cn = 8 := own_cn (k := 8) (Or.inr hc43) (own_no8 hcn) hcn (by decide); subst hk; exact ⟨rfl, Nh47, by rw [e44]; exact K48, by rw [e44, own_pp8]; exact V44⟩) (by decide) (by decide)
                · refine OGo.on (fun t k => XS.icmpYes Xh41.here hx rfl (pc0 := 7) (pc' := 31) rfl (hb hby d1_7) rfl (flt hc43).2.1 (by decide) (by decide) k) ?_
                  show OGo p e below s _ _ _ (T38.setTop (mkF m 31 #[.val (.ref ra), .val (.int (Int32.ofNat on)), .val (.long vv), .second, .val (.int (Int32.ofNat cn)), .val (.int (7 : Int32))] []))
                  exact OGo.ret0 Xh41 hx hret hlk (hb hby d1_31) (by have hk : cn = 7 := own_cn (k := 7) (Or.inr hc37) hc43 hcn (by decide); subst hk; exact ⟨rfl, Nh41, by rw [e38]; exact K42, by rw [e38, own_pp7]; exact V38⟩) (by decide) (by decide)
              · refine OGo.on (fun t k => XS.icmpYes Xh35.here hx rfl (pc0 := 7) (pc' := 31) rfl (hb hby d1_7) rfl (flt hc37).2.1 (by decide) (by decide) k) ?_
                show OGo p e below s _ _ _ (T32.setTop (mkF m 31 #[.val (.ref ra), .val (.int (Int32.ofNat on)), .val (.long vv), .second, .val (.int (Int32.ofNat cn)), .val (.int (6 : Int32))] []))
                exact OGo.ret0 Xh35 hx hret hlk (hb hby d1_31) (by have hk : cn = 6 := own_cn (k := 6) (Or.inr hc31) hc37 hcn (by decide); subst hk; exact ⟨rfl, Nh35, by rw [e32]; exact K36, by rw [e32, own_pp6]; exact V32⟩) (by decide) (by decide)
            · refine OGo.on (fun t k => XS.icmpYes Xh29.here hx rfl (pc0 := 7) (pc' := 31) rfl (hb hby d1_7) rfl (flt hc31).2.1 (by decide) (by decide) k) ?_
              show OGo p e below s _ _ _ (T26.setTop (mkF m 31 #[.val (.ref ra), .val (.int (Int32.ofNat on)), .val (.long vv), .second, .val (.int (Int32.ofNat cn)), .val (.int (5 : Int32))] []))
              exact OGo.ret0 Xh29 hx hret hlk (hb hby d1_31) (by have hk : cn = 5 := own_cn (k := 5) (Or.inr hc25) hc31 hcn (by decide); subst hk; exact ⟨rfl, Nh29, by rw [e26]; exact K30, by rw [e26, own_pp5]; exact V26⟩) (by decide) (by decide)
          · refine OGo.on (fun t k => XS.icmpYes Xh23.here hx rfl (pc0 := 7) (pc' := 31) rfl (hb hby d1_7) rfl (flt hc25).2.1 (by decide) (by decide) k) ?_
            show OGo p e below s _ _ _ (T20.setTop (mkF m 31 #[.val (.ref ra), .val (.int (Int32.ofNat on)), .val (.long vv), .second, .val (.int (Int32.ofNat cn)), .val (.int (4 : Int32))] []))
            exact OGo.ret0 Xh23 hx hret hlk (hb hby d1_31) (by have hk : cn = 4 := own_cn (k := 4) (Or.inr hc19) hc25 hcn (by decide); subst hk; exact ⟨rfl, Nh23, by rw [e20]; exact K24, by rw [e20, own_pp4]; exact V20⟩) (by decide) (by decide)
        · refine OGo.on (fun t k => XS.icmpYes Xh17.here hx rfl (pc0 := 7) (pc' := 31) rfl (hb hby d1_7) rfl (flt hc19).2.1 (by decide) (by decide) k) ?_
          show OGo p e below s _ _ _ (T14.setTop (mkF m 31 #[.val (.ref ra), .val (.int (Int32.ofNat on)), .val (.long vv), .second, .val (.int (Int32.ofNat cn)), .val (.int (3 : Int32))] []))
          exact OGo.ret0 Xh17 hx hret hlk (hb hby d1_31) (by have hk : cn = 3 := own_cn (k := 3) (Or.inr hc13) hc19 hcn (by decide); subst hk; exact ⟨rfl, Nh17, by rw [e14]; exact K18, by rw [e14, own_pp3]; exact V14⟩) (by decide) (by decide)
      · refine OGo.on (fun t k => XS.icmpYes Xh11.here hx rfl (pc0 := 7) (pc' := 31) rfl (hb hby d1_7) rfl (flt hc13).2.1 (by decide) (by decide) k) ?_
        show OGo p e below s _ _ _ (T8.setTop (mkF m 31 #[.val (.ref ra), .val (.int (Int32.ofNat on)), .val (.long vv), .second, .val (.int (Int32.ofNat cn)), .val (.int (2 : Int32))] []))
        exact OGo.ret0 Xh11 hx hret hlk (hb hby d1_31) (by have hk : cn = 2 := own_cn (k := 2) (Or.inr hc7) hc13 hcn (by decide); subst hk; exact ⟨rfl, Nh11, by rw [e8]; exact K12, by rw [e8, own_pp2]; exact V8⟩) (by decide) (by decide)
    · refine OGo.on (fun t k => XS.icmpYes Xh5.here hx rfl (pc0 := 7) (pc' := 31) rfl (hb hby d1_7) rfl (flt hc7).2.1 (by decide) (by decide) k) ?_
      show OGo p e below s _ _ _ (T2.setTop (mkF m 31 #[.val (.ref ra), .val (.int (Int32.ofNat on)), .val (.long vv), .second, .val (.int (Int32.ofNat cn)), .val (.int (1 : Int32))] []))
      exact OGo.ret0 Xh5 hx hret hlk (hb hby d1_31) (by have hk : cn = 1 := own_cn (k := 1) (Or.inr hc1) hc7 hcn (by decide); subst hk; exact ⟨rfl, Nh5, by rw [e2]; exact K6, by rw [e2, own_pp1]; exact V2⟩) (by decide) (by decide)
  · refine OGo.on (fun t k => XS.icmpYes X0.here hx rfl (pc0 := 7) (pc' := 31) rfl (hb hby d1_7) rfl (flt hc1).2.1 (by decide) (by decide) k) ?_
    show OGo p e below s _ _ _ (s₁.setTop (mkF m 31 #[.val (.ref ra), .val (.int (Int32.ofNat on)), .val (.long vv), .second, .val (.int (Int32.ofNat cn)), .val (.int (0 : Int32))] []))
    exact OGo.ret0 X0 hx hret hlk (hb hby d1_31) (by have hk : cn = 0 := own_cn (k := 0) (Or.inl rfl) hc1 hcn (by decide); subst hk; exact ⟨rfl, N0, by rw [e0]; exact K0, by rw [e0, own_pp0]; exact A0⟩) (by decide) (by decide)
theorem own_pn1 : plainName "com/example/libmsgframe/libmsgframe/dsa2/LittleEndianPutLowBytesPinLaw" = true := by first | (simp [plainName, overriddenIn]; done) | decide +kernel
theorem ef_own_mok (m : MethodId) (x0 : Addr) (x1 : Int32) (x2 : Int32) (x3 : Int32) (x4 : Int64) (x5 : Int32) : entryFrame m #[(.ref x0), (.int x1), (.int x2), (.int x3), (.long x4), (.int x5)] 9 = mkF m 0 #[.val (.ref x0), .val (.int x1), .val (.int x2), .val (.int x3), .val (.long x4), .second, .val (.int x5), .unset, .unset] [] := by first | (simp [entryFrame, mkF, argsToLocals, Value.category]; done) | rfl
theorem d2_0 : decode method_3_code 0 = .ok (.iload_n 1, 1) := by decide +kernel
theorem d2_1 : decode method_3_code 1 = .ok (.iload_n 2, 1) := by decide +kernel
theorem d2_2 : decode method_3_code 2 = .ok (.isub, 1) := by decide +kernel
theorem d2_3 : decode method_3_code 3 = .ok (.istore 7, 2) := by decide +kernel
theorem d2_5 : decode method_3_code 5 = .ok (.iload 7, 2) := by decide +kernel
theorem d2_7 : decode method_3_code 7 = .ok (.ifCond .lt 28, 3) := by decide +kernel
theorem d2_10 : decode method_3_code 10 = .ok (.iload 7, 2) := by decide +kernel
theorem d2_12 : decode method_3_code 12 = .ok (.iload_n 3, 1) := by decide +kernel
theorem d2_13 : decode method_3_code 13 = .ok (.if_icmp .ge 22, 3) := by decide +kernel
theorem d2_16 : decode method_3_code 16 = .ok (.lload 4, 2) := by decide +kernel
theorem d2_18 : decode method_3_code 18 = .ok (.bipush 8, 2) := by decide +kernel
theorem d2_20 : decode method_3_code 20 = .ok (.iload 7, 2) := by decide +kernel
theorem d2_22 : decode method_3_code 22 = .ok (.imul, 1) := by decide +kernel
theorem d2_23 : decode method_3_code 23 = .ok (.lshr, 1) := by decide +kernel
theorem d2_24 : decode method_3_code 24 = .ok (.ldc2_w 20, 3) := by decide +kernel
theorem d2_27 : decode method_3_code 27 = .ok (.land, 1) := by decide +kernel
theorem d2_28 : decode method_3_code 28 = .ok (.l2i, 1) := by decide +kernel
theorem d2_29 : decode method_3_code 29 = .ok (.i2b, 1) := by decide +kernel
theorem d2_30 : decode method_3_code 30 = .ok (.istore 8, 2) := by decide +kernel
theorem d2_32 : decode method_3_code 32 = .ok (.goto 7, 3) := by decide +kernel
theorem d2_35 : decode method_3_code 35 = .ok (.iload 6, 2) := by decide +kernel
theorem d2_37 : decode method_3_code 37 = .ok (.istore 8, 2) := by decide +kernel
theorem d2_39 : decode method_3_code 39 = .ok (.aload_n 0, 1) := by decide +kernel
theorem d2_40 : decode method_3_code 40 = .ok (.iload_n 1, 1) := by decide +kernel
theorem d2_41 : decode method_3_code 41 = .ok (.baload, 1) := by decide +kernel
theorem d2_42 : decode method_3_code 42 = .ok (.iload 8, 2) := by decide +kernel
theorem d2_44 : decode method_3_code 44 = .ok (.if_icmp .ne 7, 3) := by decide +kernel
theorem d2_47 : decode method_3_code 47 = .ok (.iconst 1, 1) := by decide +kernel
theorem d2_48 : decode method_3_code 48 = .ok (.goto 4, 3) := by decide +kernel
theorem d2_51 : decode method_3_code 51 = .ok (.iconst 0, 1) := by decide +kernel
theorem d2_52 : decode method_3_code 52 = .ok (.ireturn, 1) := by decide +kernel
set_option maxRecDepth 65536 in
set_option maxHeartbeats 40000000 in
theorem own_mok (l : Launch) (Z : State) (a0 : Array Value) (hw : ∀ d ∈ tables_1, d.before a0 Z = true) (ws : List Jvm.Cond) (ra : Addr) (vj vat vcnt : Int32) (vv : Int64) (vf w : Int32) (vs : List Int32) (h0 : Heap) (n0 : Nat) (Z0 : n0 ≤ h0.size) (A0 : OAL Z h0 ra .byte vs) (q : OAt vs vj w) :
    MetFree l (⟨"com/example/libmsgframe/libmsgframe/dsa2/LittleEndianPutLowBytesPinLaw", "ok", "([BIIIJB)Z"⟩ : MethodName) (head1 (Jvm.Cond.code (⟨"com/example/libmsgframe/libmsgframe/dsa2/LittleEndianPutLowBytesPinLaw", "ok", "([BIIIJB)Z"⟩ : MethodName) method_3_code 9 (some .boolean) :: ws) ({ frames := 0, cells := 0, slots := 0, locals := 0 } : Room)) (fun a U => a = #[(.ref ra), (.int vj), (.int vat), (.int vcnt), (.long vv), (.int vf)] ∧ Z.Warmed39 U.vm ∧ U.heap = h0) (fun _ _ _ _ _ => True) (fun _ U o U' => ∃ v L, o = .returned v ∧ (OPure n0 h0 (some (.int (own_ok w vj vat vcnt vv vf)))) v U'.heap L ∧ FrameEnd U o U' L ({ frames := 0, cells := 0, slots := 0, locals := 0 } : Room).cells ({ frames := 0, cells := 0, slots := 0, locals := 0 } : Room).slots) := by
  refine MetFree.of_bodySF (plainFor_of_name own_pn1) hisR ?_
  intro p e s m args below meth c s₁ Bd hml0 hP hK
  obtain ⟨rfl, hZ, hh⟩ := hP
  have hx := Bd.exec
  have hby := Bd.bytes
  have hret := Bd.returns
  have hlk : meth.locks = false := Bd.notSynchronized
  have hml : c.maxLocals = 9 := hml0
  have hown : s.vm.findClass "com/example/libmsgframe/libmsgframe/dsa2/LittleEndianPutLowBytesPinLaw" = some m.cls := findClass_of_methodNamed Bd.named
  have hnm := (name_of_methodNamed Bd.named Bd.method).1
  have X0 : Stand p l e ({ frames := 0, cells := 0, slots := 0, locals := 0 } : Room) s m #[(.ref ra), (.int vj), (.int vat), (.int vcnt), (.long vv), (.int vf)] below meth c s₁ [] 0 0 := Stand.of_body Bd
  have e0 : s₁.heap = h0 := by rw [← hh, Bd.state]; rfl
  have N0 := Fr.nil n0
  have pre0 : ∀ t, Steps p.tables e below (s₁.setTop (mkF m 0 #[.val (.ref ra), .val (.int vj), .val (.int vat), .val (.int vcnt), .val (.long vv), .second, .val (.int vf), .unset, .unset] [])) t → Steps p.tables e below (s₁.setTop (entryFrame m #[(.ref ra), (.int vj), (.int vat), (.int vcnt), (.long vv), (.int vf)] 9)) t := fun t k => castTop (ef_own_mok m ra vj vat vcnt vv vf) k
  show OGo p e below s (OPure n0 h0 (some (.int (own_ok w vj vat vcnt vv vf)))) ({ frames := 0, cells := 0, slots := 0, locals := 0 } : Room).cells ({ frames := 0, cells := 0, slots := 0, locals := 0 } : Room).slots (s₁.setTop (entryFrame m #[(.ref ra), (.int vj), (.int vat), (.int vcnt), (.long vv), (.int vf)] 9))
  refine OGo.on pre0 ?_
  show OGo p e below s _ _ _ (s₁.setTop (mkF m 0 #[.val (.ref ra), .val (.int vj), .val (.int vat), .val (.int vcnt), .val (.long vv), .second, .val (.int vf), .unset, .unset] []))
  refine OGo.on (fun t k => XS.iloadN X0.here hx rfl (hb hby d2_0) rfl k) ?_
  show OGo p e below s _ _ _ (s₁.setTop (mkF m 1 #[.val (.ref ra), .val (.int vj), .val (.int vat), .val (.int vcnt), .val (.long vv), .second, .val (.int vf), .unset, .unset] [(.int vj)]))
  refine OGo.on (fun t k => XS.iloadN X0.here hx rfl (hb hby d2_1) rfl k) ?_
  show OGo p e below s _ _ _ (s₁.setTop (mkF m 2 #[.val (.ref ra), .val (.int vj), .val (.int vat), .val (.int vcnt), .val (.long vv), .second, .val (.int vf), .unset, .unset] [(.int vat), (.int vj)]))
  refine OGo.on (fun t k => XS.isub X0.here hx rfl (hb hby d2_2) rfl k) ?_
  show OGo p e below s _ _ _ (s₁.setTop (mkF m 3 #[.val (.ref ra), .val (.int vj), .val (.int vat), .val (.int vcnt), .val (.long vv), .second, .val (.int vf), .unset, .unset] [(.int (vj - vat))]))
  refine OGo.on (fun t k => XS.istore X0.here hx rfl (hb hby d2_3) rfl (l' := #[.val (.ref ra), .val (.int vj), .val (.int vat), .val (.int vcnt), .val (.long vv), .second, .val (.int vf), .val (.int (vj - vat)), .unset]) rfl k) ?_
  show OGo p e below s _ _ _ (s₁.setTop (mkF m 5 #[.val (.ref ra), .val (.int vj), .val (.int vat), .val (.int vcnt), .val (.long vv), .second, .val (.int vf), .val (.int (vj - vat)), .unset] []))
  refine OGo.on (fun t k => XS.iload X0.here hx rfl (hb hby d2_5) rfl k) ?_
  show OGo p e below s _ _ _ (s₁.setTop (mkF m 7 #[.val (.ref ra), .val (.int vj), .val (.int vat), .val (.int vcnt), .val (.long vv), .second, .val (.int vf), .val (.int (vj - vat)), .unset] [(.int (vj - vat))]))
  by_cases hc49 : (vj - vat) < (0 : Int32)
  · refine OGo.on (fun t k => XS.ifYes X0.here hx rfl (pc0 := 7) (pc' := 35) rfl (hb hby d2_7) rfl ((if0 _ _).trans (tlt hc49).1) (by decide) (by decide) k) ?_
    show OGo p e below s _ _ _ (s₁.setTop (mkF m 35 #[.val (.ref ra), .val (.int vj), .val (.int vat), .val (.int vcnt), .val (.long vv), .second, .val (.int vf), .val (.int (vj - vat)), .unset] []))
    refine OGo.on (fun t k => XS.iload X0.here hx rfl (hb hby d2_35) rfl k) ?_
    show OGo p e below s _ _ _ (s₁.setTop (mkF m 37 #[.val (.ref ra), .val (.int vj), .val (.int vat), .val (.int vcnt), .val (.long vv), .second, .val (.int vf), .val (.int (vj - vat)), .unset] [(.int vf)]))
    refine OGo.on (fun t k => XS.istore X0.here hx rfl (hb hby d2_37) rfl (l' := #[.val (.ref ra), .val (.int vj), .val (.int vat), .val (.int vcnt), .val (.long vv), .second, .val (.int vf), .val (.int (vj - vat)), .val (.int vf)]) rfl k) ?_
    show OGo p e below s _ _ _ (s₁.setTop (mkF m 39 #[.val (.ref ra), .val (.int vj), .val (.int vat), .val (.int vcnt), .val (.long vv), .second, .val (.int vf), .val (.int (vj - vat)), .val (.int vf)] []))
    refine OGo.on (fun t k => XS.aloadN X0.here hx rfl (hb hby d2_39) rfl rfl k) ?_
    show OGo p e below s _ _ _ (s₁.setTop (mkF m 40 #[.val (.ref ra), .val (.int vj), .val (.int vat), .val (.int vcnt), .val (.long vv), .second, .val (.int vf), .val (.int (vj - vat)), .val (.int vf)] [(.ref ra)]))
    refine OGo.on (fun t k => XS.iloadN X0.here hx rfl (hb hby d2_40) rfl k) ?_
    show OGo p e below s _ _ _ (s₁.setTop (mkF m 41 #[.val (.ref ra), .val (.int vj), .val (.int vat), .val (.int vcnt), .val (.long vv), .second, .val (.int vf), .val (.int (vj - vat)), .val (.int vf)] [(.int vj), (.ref ra)]))
    refine OGo.on (fun t k => OAL.baB X0 hx hZ e0 A0 q (hb hby d2_41) k) ?_
    show OGo p e below s _ _ _ (s₁.setTop (mkF m 42 #[.val (.ref ra), .val (.int vj), .val (.int vat), .val (.int vcnt), .val (.long vv), .second, .val (.int vf), .val (.int (vj - vat)), .val (.int vf)] [(.int w)]))
    refine OGo.on (fun t k => XS.iload X0.here hx rfl (hb hby d2_42) rfl k) ?_
    show OGo p e below s _ _ _ (s₁.setTop (mkF m 44 #[.val (.ref ra), .val (.int vj), .val (.int vat), .val (.int vcnt), .val (.long vv), .second, .val (.int vf), .val (.int (vj - vat)), .val (.int vf)] [(.int vf), (.int w)]))
    by_cases hc50 : w = vf
    · refine OGo.on (fun t k => XS.icmpNo X0.here hx rfl (hb hby d2_44) rfl (teq hc50).2 k) ?_
      show OGo p e below s _ _ _ (s₁.setTop (mkF m 47 #[.val (.ref ra), .val (.int vj), .val (.int vat), .val (.int vcnt), .val (.long vv), .second, .val (.int vf), .val (.int (vj - vat)), .val (.int vf)] []))
      refine OGo.on (fun t k => XS.iconst X0.here hx rfl (hb hby d2_47) k) ?_
      show OGo p e below s _ _ _ (s₁.setTop (mkF m 48 #[.val (.ref ra), .val (.int vj), .val (.int vat), .val (.int vcnt), .val (.long vv), .second, .val (.int vf), .val (.int (vj - vat)), .val (.int vf)] [(.int (1 : Int32))]))
      refine OGo.on (fun t k => XS.goto X0.here hx rfl (pc0 := 48) (pc' := 52) rfl (hb hby d2_48) (by decide) (by decide) k) ?_
      show OGo p e below s _ _ _ (s₁.setTop (mkF m 52 #[.val (.ref ra), .val (.int vj), .val (.int vat), .val (.int vcnt), .val (.long vv), .second, .val (.int vf), .val (.int (vj - vat)), .val (.int vf)] [(.int (1 : Int32))]))
      exact OGo.retN X0 hx (t := .boolean) hret hlk (by simp) (hb hby d2_52) (opI (own_ok1 (own_exp2 hc49) hc50) N0 e0) (by decide) (by decide)
    · refine OGo.on (fun t k => XS.icmpYes X0.here hx rfl (pc0 := 44) (pc' := 51) rfl (hb hby d2_44) rfl (feq hc50).2 (by decide) (by decide) k) ?_
      show OGo p e below s _ _ _ (s₁.setTop (mkF m 51 #[.val (.ref ra), .val (.int vj), .val (.int vat), .val (.int vcnt), .val (.long vv), .second, .val (.int vf), .val (.int (vj - vat)), .val (.int vf)] []))
      refine OGo.on (fun t k => XS.iconst X0.here hx rfl (hb hby d2_51) k) ?_
      show OGo p e below s _ _ _ (s₁.setTop (mkF m 52 #[.val (.ref ra), .val (.int vj), .val (.int vat), .val (.int vcnt), .val (.long vv), .second, .val (.int vf), .val (.int (vj - vat)), .val (.int vf)] [(.int (0 : Int32))]))
      exact OGo.retN X0 hx (t := .boolean) hret hlk (by simp) (hb hby d2_52) (opI (own_ok0 (own_exp2 hc49) hc50) N0 e0) (by decide) (by decide)
  · refine OGo.on (fun t k => XS.ifNo X0.here hx rfl (hb hby d2_7) rfl ((if0 _ _).trans (flt hc49).1) k) ?_
    show OGo p e below s _ _ _ (s₁.setTop (mkF m 10 #[.val (.ref ra), .val (.int vj), .val (.int vat), .val (.int vcnt), .val (.long vv), .second, .val (.int vf), .val (.int (vj - vat)), .unset] []))
    refine OGo.on (fun t k => XS.iload X0.here hx rfl (hb hby d2_10) rfl k) ?_
    show OGo p e below s _ _ _ (s₁.setTop (mkF m 12 #[.val (.ref ra), .val (.int vj), .val (.int vat), .val (.int vcnt), .val (.long vv), .second, .val (.int vf), .val (.int (vj - vat)), .unset] [(.int (vj - vat))]))
    refine OGo.on (fun t k => XS.iloadN X0.here hx rfl (hb hby d2_12) rfl k) ?_
    show OGo p e below s _ _ _ (s₁.setTop (mkF m 13 #[.val (.ref ra), .val (.int vj), .val (.int vat), .val (.int vcnt), .val (.long vv), .second, .val (.int vf), .val (.int (vj - vat)), .unset] [(.int vcnt), (.int (vj - vat))]))
    by_cases hc51 : (vj - vat) < vcnt
    · refine OGo.on (fun t k => XS.icmpNo X0.here hx rfl (hb hby d2_13) rfl (tlt hc51).2.1 k) ?_
      show OGo p e below s _ _ _ (s₁.setTop (mkF m 16 #[.val (.ref ra), .val (.int vj), .val (.int vat), .val (.int vcnt), .val (.long vv), .second, .val (.int vf), .val (.int (vj - vat)), .unset] []))
      refine OGo.on (fun t k => XS.lload X0.here hx rfl (hb hby d2_16) rfl k) ?_
      show OGo p e below s _ _ _ (s₁.setTop (mkF m 18 #[.val (.ref ra), .val (.int vj), .val (.int vat), .val (.int vcnt), .val (.long vv), .second, .val (.int vf), .val (.int (vj - vat)), .unset] [(.long vv)]))
      refine OGo.on (fun t k => XS.bipush X0.here hx rfl (hb hby d2_18) k) ?_
      show OGo p e below s _ _ _ (s₁.setTop (mkF m 20 #[.val (.ref ra), .val (.int vj), .val (.int vat), .val (.int vcnt), .val (.long vv), .second, .val (.int vf), .val (.int (vj - vat)), .unset] [(.int (8 : Int32)), (.long vv)]))
      refine OGo.on (fun t k => XS.iload X0.here hx rfl (hb hby d2_20) rfl k) ?_
      show OGo p e below s _ _ _ (s₁.setTop (mkF m 22 #[.val (.ref ra), .val (.int vj), .val (.int vat), .val (.int vcnt), .val (.long vv), .second, .val (.int vf), .val (.int (vj - vat)), .unset] [(.int (vj - vat)), (.int (8 : Int32)), (.long vv)]))
      refine OGo.on (fun t k => XS.imul X0.here hx rfl (hb hby d2_22) rfl k) ?_
      show OGo p e below s _ _ _ (s₁.setTop (mkF m 23 #[.val (.ref ra), .val (.int vj), .val (.int vat), .val (.int vcnt), .val (.long vv), .second, .val (.int vf), .val (.int (vj - vat)), .unset] [(.int ((8 : Int32) * (vj - vat))), (.long vv)]))
      refine OGo.on (fun t k => XS.lshr X0.here hx rfl (hb hby d2_23) rfl k) ?_
      show OGo p e below s _ _ _ (s₁.setTop (mkF m 24 #[.val (.ref ra), .val (.int vj), .val (.int vat), .val (.int vcnt), .val (.long vv), .second, .val (.int vf), .val (.int (vj - vat)), .unset] [(.long (vv >>> (((8 : Int32) * (vj - vat)) &&& 0x3f).toInt64))]))
      refine OGo.on (fun t k => X0.ldc2J hx hown (mvT hZ (hw _ (List.mem_of_getElem? (i := 10) rfl))) (g := (mkF m 24 #[.val (.ref ra), .val (.int vj), .val (.int vat), .val (.int vcnt), .val (.long vv), .second, .val (.int vf), .val (.int (vj - vat)), .unset] [(.long (vv >>> (((8 : Int32) * (vj - vat)) &&& 0x3f).toInt64))])) rfl (hb hby d2_24) k) ?_
      show OGo p e below s _ _ _ (s₁.setTop (mkF m 27 #[.val (.ref ra), .val (.int vj), .val (.int vat), .val (.int vcnt), .val (.long vv), .second, .val (.int vf), .val (.int (vj - vat)), .unset] [(.long (255 : Int64)), (.long (vv >>> (((8 : Int32) * (vj - vat)) &&& 0x3f).toInt64))]))
      refine OGo.on (fun t k => XS.land X0.here hx rfl (hb hby d2_27) rfl k) ?_
      show OGo p e below s _ _ _ (s₁.setTop (mkF m 28 #[.val (.ref ra), .val (.int vj), .val (.int vat), .val (.int vcnt), .val (.long vv), .second, .val (.int vf), .val (.int (vj - vat)), .unset] [(.long ((vv >>> (((8 : Int32) * (vj - vat)) &&& 0x3f).toInt64) &&& (255 : Int64)))]))
      refine OGo.on (fun t k => XS.l2i X0.here hx rfl (hb hby d2_28) rfl k) ?_
      show OGo p e below s _ _ _ (s₁.setTop (mkF m 29 #[.val (.ref ra), .val (.int vj), .val (.int vat), .val (.int vcnt), .val (.long vv), .second, .val (.int vf), .val (.int (vj - vat)), .unset] [(.int (((vv >>> (((8 : Int32) * (vj - vat)) &&& 0x3f).toInt64) &&& (255 : Int64)).toInt32))]))
      refine OGo.on (fun t k => XS.i2b X0.here hx rfl (hb hby d2_29) rfl k) ?_
      show OGo p e below s _ _ _ (s₁.setTop (mkF m 30 #[.val (.ref ra), .val (.int vj), .val (.int vat), .val (.int vcnt), .val (.long vv), .second, .val (.int vf), .val (.int (vj - vat)), .unset] [(.int ((((vv >>> (((8 : Int32) * (vj - vat)) &&& 0x3f).toInt64) &&& (255 : Int64)).toInt32).toInt8.toInt32))]))
      refine OGo.on (fun t k => XS.istore X0.here hx rfl (hb hby d2_30) rfl (l' := #[.val (.ref ra), .val (.int vj), .val (.int vat), .val (.int vcnt), .val (.long vv), .second, .val (.int vf), .val (.int (vj - vat)), .val (.int ((((vv >>> (((8 : Int32) * (vj - vat)) &&& 0x3f).toInt64) &&& (255 : Int64)).toInt32).toInt8.toInt32))]) rfl k) ?_
      show OGo p e below s _ _ _ (s₁.setTop (mkF m 32 #[.val (.ref ra), .val (.int vj), .val (.int vat), .val (.int vcnt), .val (.long vv), .second, .val (.int vf), .val (.int (vj - vat)), .val (.int ((((vv >>> (((8 : Int32) * (vj - vat)) &&& 0x3f).toInt64) &&& (255 : Int64)).toInt32).toInt8.toInt32))] []))
      refine OGo.on (fun t k => XS.goto X0.here hx rfl (pc0 := 32) (pc' := 39) rfl (hb hby d2_32) (by decide) (by decide) k) ?_
      show OGo p e below s _ _ _ (s₁.setTop (mkF m 39 #[.val (.ref ra), .val (.int vj), .val (.int vat), .val (.int vcnt), .val (.long vv), .second, .val (.int vf), .val (.int (vj - vat)), .val (.int ((((vv >>> (((8 : Int32) * (vj - vat)) &&& 0x3f).toInt64) &&& (255 : Int64)).toInt32).toInt8.toInt32))] []))
      refine OGo.on (fun t k => XS.aloadN X0.here hx rfl (hb hby d2_39) rfl rfl k) ?_
      show OGo p e below s _ _ _ (s₁.setTop (mkF m 40 #[.val (.ref ra), .val (.int vj), .val (.int vat), .val (.int vcnt), .val (.long vv), .second, .val (.int vf), .val (.int (vj - vat)), .val (.int ((((vv >>> (((8 : Int32) * (vj - vat)) &&& 0x3f).toInt64) &&& (255 : Int64)).toInt32).toInt8.toInt32))] [(.ref ra)]))
      refine OGo.on (fun t k => XS.iloadN X0.here hx rfl (hb hby d2_40) rfl k) ?_
      show OGo p e below s _ _ _ (s₁.setTop (mkF m 41 #[.val (.ref ra), .val (.int vj), .val (.int vat), .val (.int vcnt), .val (.long vv), .second, .val (.int vf), .val (.int (vj - vat)), .val (.int ((((vv >>> (((8 : Int32) * (vj - vat)) &&& 0x3f).toInt64) &&& (255 : Int64)).toInt32).toInt8.toInt32))] [(.int vj), (.ref ra)]))
      refine OGo.on (fun t k => OAL.baB X0 hx hZ e0 A0 q (hb hby d2_41) k) ?_
      show OGo p e below s _ _ _ (s₁.setTop (mkF m 42 #[.val (.ref ra), .val (.int vj), .val (.int vat), .val (.int vcnt), .val (.long vv), .second, .val (.int vf), .val (.int (vj - vat)), .val (.int ((((vv >>> (((8 : Int32) * (vj - vat)) &&& 0x3f).toInt64) &&& (255 : Int64)).toInt32).toInt8.toInt32))] [(.int w)]))
      refine OGo.on (fun t k => XS.iload X0.here hx rfl (hb hby d2_42) rfl k) ?_
      show OGo p e below s _ _ _ (s₁.setTop (mkF m 44 #[.val (.ref ra), .val (.int vj), .val (.int vat), .val (.int vcnt), .val (.long vv), .second, .val (.int vf), .val (.int (vj - vat)), .val (.int ((((vv >>> (((8 : Int32) * (vj - vat)) &&& 0x3f).toInt64) &&& (255 : Int64)).toInt32).toInt8.toInt32))] [(.int ((((vv >>> (((8 : Int32) * (vj - vat)) &&& 0x3f).toInt64) &&& (255 : Int64)).toInt32).toInt8.toInt32)), (.int w)]))
      by_cases hc52 : w = ((((vv >>> (((8 : Int32) * (vj - vat)) &&& 0x3f).toInt64) &&& (255 : Int64)).toInt32).toInt8.toInt32)
      · refine OGo.on (fun t k => XS.icmpNo X0.here hx rfl (hb hby d2_44) rfl (teq hc52).2 k) ?_
        show OGo p e below s _ _ _ (s₁.setTop (mkF m 47 #[.val (.ref ra), .val (.int vj), .val (.int vat), .val (.int vcnt), .val (.long vv), .second, .val (.int vf), .val (.int (vj - vat)), .val (.int ((((vv >>> (((8 : Int32) * (vj - vat)) &&& 0x3f).toInt64) &&& (255 : Int64)).toInt32).toInt8.toInt32))] []))
        refine OGo.on (fun t k => XS.iconst X0.here hx rfl (hb hby d2_47) k) ?_
        show OGo p e below s _ _ _ (s₁.setTop (mkF m 48 #[.val (.ref ra), .val (.int vj), .val (.int vat), .val (.int vcnt), .val (.long vv), .second, .val (.int vf), .val (.int (vj - vat)), .val (.int ((((vv >>> (((8 : Int32) * (vj - vat)) &&& 0x3f).toInt64) &&& (255 : Int64)).toInt32).toInt8.toInt32))] [(.int (1 : Int32))]))
        refine OGo.on (fun t k => XS.goto X0.here hx rfl (pc0 := 48) (pc' := 52) rfl (hb hby d2_48) (by decide) (by decide) k) ?_
        show OGo p e below s _ _ _ (s₁.setTop (mkF m 52 #[.val (.ref ra), .val (.int vj), .val (.int vat), .val (.int vcnt), .val (.long vv), .second, .val (.int vf), .val (.int (vj - vat)), .val (.int ((((vv >>> (((8 : Int32) * (vj - vat)) &&& 0x3f).toInt64) &&& (255 : Int64)).toInt32).toInt8.toInt32))] [(.int (1 : Int32))]))
        exact OGo.retN X0 hx (t := .boolean) hret hlk (by simp) (hb hby d2_52) (opI (own_ok1 (own_exp1 hc49 hc51) hc52) N0 e0) (by decide) (by decide)
      · refine OGo.on (fun t k => XS.icmpYes X0.here hx rfl (pc0 := 44) (pc' := 51) rfl (hb hby d2_44) rfl (feq hc52).2 (by decide) (by decide) k) ?_
        show OGo p e below s _ _ _ (s₁.setTop (mkF m 51 #[.val (.ref ra), .val (.int vj), .val (.int vat), .val (.int vcnt), .val (.long vv), .second, .val (.int vf), .val (.int (vj - vat)), .val (.int ((((vv >>> (((8 : Int32) * (vj - vat)) &&& 0x3f).toInt64) &&& (255 : Int64)).toInt32).toInt8.toInt32))] []))
        refine OGo.on (fun t k => XS.iconst X0.here hx rfl (hb hby d2_51) k) ?_
        show OGo p e below s _ _ _ (s₁.setTop (mkF m 52 #[.val (.ref ra), .val (.int vj), .val (.int vat), .val (.int vcnt), .val (.long vv), .second, .val (.int vf), .val (.int (vj - vat)), .val (.int ((((vv >>> (((8 : Int32) * (vj - vat)) &&& 0x3f).toInt64) &&& (255 : Int64)).toInt32).toInt8.toInt32))] [(.int (0 : Int32))]))
        exact OGo.retN X0 hx (t := .boolean) hret hlk (by simp) (hb hby d2_52) (opI (own_ok0 (own_exp1 hc49 hc51) hc52) N0 e0) (by decide) (by decide)
    · refine OGo.on (fun t k => XS.icmpYes X0.here hx rfl (pc0 := 13) (pc' := 35) rfl (hb hby d2_13) rfl (flt hc51).2.1 (by decide) (by decide) k) ?_
      show OGo p e below s _ _ _ (s₁.setTop (mkF m 35 #[.val (.ref ra), .val (.int vj), .val (.int vat), .val (.int vcnt), .val (.long vv), .second, .val (.int vf), .val (.int (vj - vat)), .unset] []))
      refine OGo.on (fun t k => XS.iload X0.here hx rfl (hb hby d2_35) rfl k) ?_
      show OGo p e below s _ _ _ (s₁.setTop (mkF m 37 #[.val (.ref ra), .val (.int vj), .val (.int vat), .val (.int vcnt), .val (.long vv), .second, .val (.int vf), .val (.int (vj - vat)), .unset] [(.int vf)]))
      refine OGo.on (fun t k => XS.istore X0.here hx rfl (hb hby d2_37) rfl (l' := #[.val (.ref ra), .val (.int vj), .val (.int vat), .val (.int vcnt), .val (.long vv), .second, .val (.int vf), .val (.int (vj - vat)), .val (.int vf)]) rfl k) ?_
      show OGo p e below s _ _ _ (s₁.setTop (mkF m 39 #[.val (.ref ra), .val (.int vj), .val (.int vat), .val (.int vcnt), .val (.long vv), .second, .val (.int vf), .val (.int (vj - vat)), .val (.int vf)] []))
      refine OGo.on (fun t k => XS.aloadN X0.here hx rfl (hb hby d2_39) rfl rfl k) ?_
      show OGo p e below s _ _ _ (s₁.setTop (mkF m 40 #[.val (.ref ra), .val (.int vj), .val (.int vat), .val (.int vcnt), .val (.long vv), .second, .val (.int vf), .val (.int (vj - vat)), .val (.int vf)] [(.ref ra)]))
      refine OGo.on (fun t k => XS.iloadN X0.here hx rfl (hb hby d2_40) rfl k) ?_
      show OGo p e below s _ _ _ (s₁.setTop (mkF m 41 #[.val (.ref ra), .val (.int vj), .val (.int vat), .val (.int vcnt), .val (.long vv), .second, .val (.int vf), .val (.int (vj - vat)), .val (.int vf)] [(.int vj), (.ref ra)]))
      refine OGo.on (fun t k => OAL.baB X0 hx hZ e0 A0 q (hb hby d2_41) k) ?_
      show OGo p e below s _ _ _ (s₁.setTop (mkF m 42 #[.val (.ref ra), .val (.int vj), .val (.int vat), .val (.int vcnt), .val (.long vv), .second, .val (.int vf), .val (.int (vj - vat)), .val (.int vf)] [(.int w)]))
      refine OGo.on (fun t k => XS.iload X0.here hx rfl (hb hby d2_42) rfl k) ?_
      show OGo p e below s _ _ _ (s₁.setTop (mkF m 44 #[.val (.ref ra), .val (.int vj), .val (.int vat), .val (.int vcnt), .val (.long vv), .second, .val (.int vf), .val (.int (vj - vat)), .val (.int vf)] [(.int vf), (.int w)]))
      by_cases hc53 : w = vf
      · refine OGo.on (fun t k => XS.icmpNo X0.here hx rfl (hb hby d2_44) rfl (teq hc53).2 k) ?_
        show OGo p e below s _ _ _ (s₁.setTop (mkF m 47 #[.val (.ref ra), .val (.int vj), .val (.int vat), .val (.int vcnt), .val (.long vv), .second, .val (.int vf), .val (.int (vj - vat)), .val (.int vf)] []))
        refine OGo.on (fun t k => XS.iconst X0.here hx rfl (hb hby d2_47) k) ?_
        show OGo p e below s _ _ _ (s₁.setTop (mkF m 48 #[.val (.ref ra), .val (.int vj), .val (.int vat), .val (.int vcnt), .val (.long vv), .second, .val (.int vf), .val (.int (vj - vat)), .val (.int vf)] [(.int (1 : Int32))]))
        refine OGo.on (fun t k => XS.goto X0.here hx rfl (pc0 := 48) (pc' := 52) rfl (hb hby d2_48) (by decide) (by decide) k) ?_
        show OGo p e below s _ _ _ (s₁.setTop (mkF m 52 #[.val (.ref ra), .val (.int vj), .val (.int vat), .val (.int vcnt), .val (.long vv), .second, .val (.int vf), .val (.int (vj - vat)), .val (.int vf)] [(.int (1 : Int32))]))
        exact OGo.retN X0 hx (t := .boolean) hret hlk (by simp) (hb hby d2_52) (opI (own_ok1 (own_exp3 hc51) hc53) N0 e0) (by decide) (by decide)
      · refine OGo.on (fun t k => XS.icmpYes X0.here hx rfl (pc0 := 44) (pc' := 51) rfl (hb hby d2_44) rfl (feq hc53).2 (by decide) (by decide) k) ?_
        show OGo p e below s _ _ _ (s₁.setTop (mkF m 51 #[.val (.ref ra), .val (.int vj), .val (.int vat), .val (.int vcnt), .val (.long vv), .second, .val (.int vf), .val (.int (vj - vat)), .val (.int vf)] []))
        refine OGo.on (fun t k => XS.iconst X0.here hx rfl (hb hby d2_51) k) ?_
        show OGo p e below s _ _ _ (s₁.setTop (mkF m 52 #[.val (.ref ra), .val (.int vj), .val (.int vat), .val (.int vcnt), .val (.long vv), .second, .val (.int vf), .val (.int (vj - vat)), .val (.int vf)] [(.int (0 : Int32))]))
        exact OGo.retN X0 hx (t := .boolean) hret hlk (by simp) (hb hby d2_52) (opI (own_ok0 (own_exp3 hc51) hc53) N0 e0) (by decide) (by decide)
theorem own_pd0 : parseMethodDescriptor "([BIJI)V" = some ⟨[(.array .byte), .int, .long, .int], none⟩ := by decide +kernel
theorem own_pd1 : parseMethodDescriptor "([BIIIJB)Z" = some ⟨[(.array .byte), .int, .int, .int, .long, .byte], some .boolean⟩ := by decide +kernel
theorem ef_own_law (m : MethodId) (x0 : Int32) (x1 : Int64) (x2 : Int32) (x3 : Int32) : entryFrame m #[(.int x0), (.long x1), (.int x2), (.int x3)] maxLocals = mkF m 0 #[.val (.int x0), .val (.long x1), .second, .val (.int x2), .val (.int x3), .unset, .unset, .unset, .unset] [] := by first | (simp [entryFrame, mkF, argsToLocals, Value.category, maxLocals]; done) | rfl
set_option maxRecDepth 65536 in
set_option maxHeartbeats 40000000 in
theorem own_law (l : Launch) (Z : State) (a0 : Array Value) (hw : ∀ d ∈ tables_1, d.before a0 Z = true) (ws : List Jvm.Cond) (vseed : Int32) (vv : Int64) (vcs vfs : Int32) (h0 : Heap) (n0 : Nat) (Z0 : n0 ≤ h0.size)  :
    MetFree l x (head1 (Jvm.Cond.code x code maxLocals ret :: ws) room_1) (fun a U => a = #[(.int vseed), (.long vv), (.int vcs), (.int vfs)] ∧ Z.Warmed39 U.vm ∧ U.heap = h0) (fun _ _ _ _ _ => True) (fun _ U o U' => ∃ v L, o = .returned v ∧ (fun v h L => v = some (.int 1) ∧ Fr n0 L) v U'.heap L ∧ FrameEnd U o U' L 16 128) := by
  refine MetFree.of_bodySF (plainFor_of_name own_pn1) hisR ?_
  intro p e s m args below meth c s₁ Bd hml0 hP hK
  obtain ⟨rfl, hZ, hh⟩ := hP
  have hx := Bd.exec
  have hby := Bd.bytes
  have hret := Bd.returns
  have hlk : meth.locks = false := Bd.notSynchronized
  have hml : c.maxLocals = 9 := hml0
  have hown : s.vm.findClass "com/example/libmsgframe/libmsgframe/dsa2/LittleEndianPutLowBytesPinLaw" = some m.cls := findClass_of_methodNamed Bd.named
  have hnm := (name_of_methodNamed Bd.named Bd.method).1
  have X0 : Stand p l e room_1 s m #[(.int vseed), (.long vv), (.int vcs), (.int vfs)] below meth c s₁ [] 0 0 := Stand.of_body Bd
  have e0 : s₁.heap = h0 := by rw [← hh, Bd.state]; rfl
  have N0 := Fr.nil n0
  have pre0 : ∀ t, Steps p.tables e below (s₁.setTop (mkF m 0 #[.val (.int vseed), .val (.long vv), .second, .val (.int vcs), .val (.int vfs), .unset, .unset, .unset, .unset] [])) t → Steps p.tables e below (s₁.setTop (entryFrame m #[(.int vseed), (.long vv), (.int vcs), (.int vfs)] maxLocals)) t := fun t k => castTop (ef_own_law m vseed vv vcs vfs) k
  show OGo p e below s (fun v h L => v = some (.int 1) ∧ Fr n0 L) 16 128 (s₁.setTop (entryFrame m #[(.int vseed), (.long vv), (.int vcs), (.int vfs)] maxLocals))
  refine OGo.on pre0 ?_
  show OGo p e below s _ _ _ (s₁.setTop (mkF m 0 #[.val (.int vseed), .val (.long vv), .second, .val (.int vcs), .val (.int vfs), .unset, .unset, .unset, .unset] []))
  refine OGo.on (fun t k => XS.iloadN X0.here hx rfl (hb hby at_0) rfl k) ?_
  show OGo p e below s _ _ _ (s₁.setTop (mkF m 1 #[.val (.int vseed), .val (.long vv), .second, .val (.int vcs), .val (.int vfs), .unset, .unset, .unset, .unset] [(.int vseed)]))
  refine OGo.on (fun t k => X0.ldcI hx hown (mvT hZ (hw _ (List.mem_of_getElem? (i := 0) rfl))) (g := (mkF m 1 #[.val (.int vseed), .val (.long vv), .second, .val (.int vcs), .val (.int vfs), .unset, .unset, .unset, .unset] [(.int vseed)])) rfl (hb hby at_1) k) ?_
  show OGo p e below s _ _ _ (s₁.setTop (mkF m 3 #[.val (.int vseed), .val (.long vv), .second, .val (.int vcs), .val (.int vfs), .unset, .unset, .unset, .unset] [(.int (2147483647 : Int32)), (.int vseed)]))
  refine OGo.on (fun t k => XS.iand X0.here hx rfl (hb hby at_3) rfl k) ?_
  show OGo p e below s _ _ _ (s₁.setTop (mkF m 4 #[.val (.int vseed), .val (.long vv), .second, .val (.int vcs), .val (.int vfs), .unset, .unset, .unset, .unset] [(.int (vseed &&& (2147483647 : Int32)))]))
  refine OGo.on (fun t k => XS.iconst X0.here hx rfl (hb hby at_4) k) ?_
  show OGo p e below s _ _ _ (s₁.setTop (mkF m 5 #[.val (.int vseed), .val (.long vv), .second, .val (.int vcs), .val (.int vfs), .unset, .unset, .unset, .unset] [(.int (5 : Int32)), (.int (vseed &&& (2147483647 : Int32)))]))
  refine OGo.on (fun t k => iremM X0 hx rfl (hb hby at_5) rfl (by decide) k) ?_
  show OGo p e below s _ _ _ (s₁.setTop (mkF m 6 #[.val (.int vseed), .val (.long vv), .second, .val (.int vcs), .val (.int vfs), .unset, .unset, .unset, .unset] [(.int ((vseed &&& (2147483647 : Int32)) % (5 : Int32)))]))
  refine OGo.on (fun t k => XS.istore X0.here hx rfl (hb hby at_6) rfl (l' := #[.val (.int vseed), .val (.long vv), .second, .val (.int vcs), .val (.int vfs), .val (.int ((vseed &&& (2147483647 : Int32)) % (5 : Int32))), .unset, .unset, .unset]) rfl k) ?_
  show OGo p e below s _ _ _ (s₁.setTop (mkF m 8 #[.val (.int vseed), .val (.long vv), .second, .val (.int vcs), .val (.int vfs), .val (.int ((vseed &&& (2147483647 : Int32)) % (5 : Int32))), .unset, .unset, .unset] []))
  generalize hv_vo : ((vseed &&& (2147483647 : Int32)) % (5 : Int32)) = vo
  show OGo p e below s _ _ _ (s₁.setTop (mkF m 8 #[.val (.int vseed), .val (.long vv), .second, .val (.int vcs), .val (.int vfs), .val (.int vo), .unset, .unset, .unset] []))
  refine OGo.on (fun t k => XS.iloadN X0.here hx rfl (hb hby at_8) rfl k) ?_
  show OGo p e below s _ _ _ (s₁.setTop (mkF m 9 #[.val (.int vseed), .val (.long vv), .second, .val (.int vcs), .val (.int vfs), .val (.int vo), .unset, .unset, .unset] [(.int vcs)]))
  refine OGo.on (fun t k => X0.ldcI hx hown (mvT hZ (hw _ (List.mem_of_getElem? (i := 0) rfl))) (g := (mkF m 9 #[.val (.int vseed), .val (.long vv), .second, .val (.int vcs), .val (.int vfs), .val (.int vo), .unset, .unset, .unset] [(.int vcs)])) rfl (hb hby at_9) k) ?_
  show OGo p e below s _ _ _ (s₁.setTop (mkF m 11 #[.val (.int vseed), .val (.long vv), .second, .val (.int vcs), .val (.int vfs), .val (.int vo), .unset, .unset, .unset] [(.int (2147483647 : Int32)), (.int vcs)]))
  refine OGo.on (fun t k => XS.iand X0.here hx rfl (hb hby at_11) rfl k) ?_
  show OGo p e below s _ _ _ (s₁.setTop (mkF m 12 #[.val (.int vseed), .val (.long vv), .second, .val (.int vcs), .val (.int vfs), .val (.int vo), .unset, .unset, .unset] [(.int (vcs &&& (2147483647 : Int32)))]))
  refine OGo.on (fun t k => XS.bipush X0.here hx rfl (hb hby at_12) k) ?_
  show OGo p e below s _ _ _ (s₁.setTop (mkF m 14 #[.val (.int vseed), .val (.long vv), .second, .val (.int vcs), .val (.int vfs), .val (.int vo), .unset, .unset, .unset] [(.int (9 : Int32)), (.int (vcs &&& (2147483647 : Int32)))]))
  refine OGo.on (fun t k => iremM X0 hx rfl (hb hby at_14) rfl (by decide) k) ?_
  show OGo p e below s _ _ _ (s₁.setTop (mkF m 15 #[.val (.int vseed), .val (.long vv), .second, .val (.int vcs), .val (.int vfs), .val (.int vo), .unset, .unset, .unset] [(.int ((vcs &&& (2147483647 : Int32)) % (9 : Int32)))]))
  refine OGo.on (fun t k => XS.istore X0.here hx rfl (hb hby at_15) rfl (l' := #[.val (.int vseed), .val (.long vv), .second, .val (.int vcs), .val (.int vfs), .val (.int vo), .val (.int ((vcs &&& (2147483647 : Int32)) % (9 : Int32))), .unset, .unset]) rfl k) ?_
  show OGo p e below s _ _ _ (s₁.setTop (mkF m 17 #[.val (.int vseed), .val (.long vv), .second, .val (.int vcs), .val (.int vfs), .val (.int vo), .val (.int ((vcs &&& (2147483647 : Int32)) % (9 : Int32))), .unset, .unset] []))
  generalize hv_vc : ((vcs &&& (2147483647 : Int32)) % (9 : Int32)) = vc
  show OGo p e below s _ _ _ (s₁.setTop (mkF m 17 #[.val (.int vseed), .val (.long vv), .second, .val (.int vcs), .val (.int vfs), .val (.int vo), .val (.int vc), .unset, .unset] []))
  refine OGo.on (fun t k => XS.iload X0.here hx rfl (hb hby at_17) rfl k) ?_
  show OGo p e below s _ _ _ (s₁.setTop (mkF m 19 #[.val (.int vseed), .val (.long vv), .second, .val (.int vcs), .val (.int vfs), .val (.int vo), .val (.int vc), .unset, .unset] [(.int vfs)]))
  refine OGo.on (fun t k => XS.i2b X0.here hx rfl (hb hby at_19) rfl k) ?_
  show OGo p e below s _ _ _ (s₁.setTop (mkF m 20 #[.val (.int vseed), .val (.long vv), .second, .val (.int vcs), .val (.int vfs), .val (.int vo), .val (.int vc), .unset, .unset] [(.int (vfs.toInt8.toInt32))]))
  refine OGo.on (fun t k => XS.istore X0.here hx rfl (hb hby at_20) rfl (l' := #[.val (.int vseed), .val (.long vv), .second, .val (.int vcs), .val (.int vfs), .val (.int vo), .val (.int vc), .val (.int (vfs.toInt8.toInt32)), .unset]) rfl k) ?_
  show OGo p e below s _ _ _ (s₁.setTop (mkF m 22 #[.val (.int vseed), .val (.long vv), .second, .val (.int vcs), .val (.int vfs), .val (.int vo), .val (.int vc), .val (.int (vfs.toInt8.toInt32)), .unset] []))
  generalize hv_vf : (vfs.toInt8.toInt32) = vf
  show OGo p e below s _ _ _ (s₁.setTop (mkF m 22 #[.val (.int vseed), .val (.long vv), .second, .val (.int vcs), .val (.int vfs), .val (.int vo), .val (.int vc), .val (.int vf), .unset] []))
  obtain ⟨on, hon, rfl⟩ : ∃ on : Nat, on < 5 ∧ vo = Int32.ofNat on := by rw [← hv_vo]; exact own_modN _ _ (by decide) (by decide) (by decide)
  obtain ⟨cn, hcn, rfl⟩ : ∃ cn : Nat, cn < 9 ∧ vc = Int32.ofNat cn := by rw [← hv_vc]; exact own_modN _ _ (by decide) (by decide) (by decide)
  have hf : nar .byte vf = vf := by rw [← hv_vf]; exact own_nf _
  show OGo p e below s _ _ _ (s₁.setTop (mkF m 22 #[.val (.int vseed), .val (.long vv), .second, .val (.int vcs), .val (.int vfs), .val (.int (Int32.ofNat on)), .val (.int (Int32.ofNat cn)), .val (.int vf), .unset] []))
  refine OGo.on (fun t k => XS.bipush X0.here hx rfl (hb hby at_22) k) ?_
  show OGo p e below s _ _ _ (s₁.setTop (mkF m 24 #[.val (.int vseed), .val (.long vv), .second, .val (.int vcs), .val (.int vfs), .val (.int (Int32.ofNat on)), .val (.int (Int32.ofNat cn)), .val (.int vf), .unset] [(.int (12 : Int32))]))
  obtain ⟨T54, h54, k54, X54, e54, E54, A54, st54⟩ := newP X0 hx hZ (hw _ (List.mem_of_getElem? (i := 1) rfl)) e0 (g := (mkF m 24 #[.val (.int vseed), .val (.long vv), .second, .val (.int vcs), .val (.int vfs), .val (.int (Int32.ofNat on)), .val (.int (Int32.ofNat cn)), .val (.int vf), .unset] [(.int (12 : Int32))])) rfl (hb hby at_24) rfl (by decide) (cap := 12) (by decide) (by decide) (by decide) (by decide)
  obtain ⟨b54, g54⟩ : ∃ z, z = h0.size := ⟨_, rfl⟩
  rw [← g54] at A54 st54
  have ge55 : n0 ≤ b54 := Nat.le_trans Z0 (Nat.le_of_eq g54.symm)
  have Z56 : n0 ≤ h54.size := Nat.le_trans Z0 E54.1
  have V54 : OAL Z h54 b54 .byte [(0 : Int32), (0 : Int32), (0 : Int32), (0 : Int32), (0 : Int32), (0 : Int32), (0 : Int32), (0 : Int32), (0 : Int32), (0 : Int32), (0 : Int32), (0 : Int32)] := OAL.new A54 rfl
  refine OGo.on st54 ?_
  show OGo p e below s _ _ _ (T54.setTop (mkF m 26 #[.val (.int vseed), .val (.long vv), .second, .val (.int vcs), .val (.int vfs), .val (.int (Int32.ofNat on)), .val (.int (Int32.ofNat cn)), .val (.int vf), .unset] [(.ref b54)]))
  refine OGo.on (fun t k => XS.dup X54.here hx rfl (hb hby at_26) rfl rfl k) ?_
  show OGo p e below s _ _ _ (T54.setTop (mkF m 27 #[.val (.int vseed), .val (.long vv), .second, .val (.int vcs), .val (.int vfs), .val (.int (Int32.ofNat on)), .val (.int (Int32.ofNat cn)), .val (.int vf), .unset] [(.ref b54), (.ref b54)]))
  refine OGo.on (fun t k => XS.iconst X54.here hx rfl (hb hby at_27) k) ?_
  show OGo p e below s _ _ _ (T54.setTop (mkF m 28 #[.val (.int vseed), .val (.long vv), .second, .val (.int vcs), .val (.int vfs), .val (.int (Int32.ofNat on)), .val (.int (Int32.ofNat cn)), .val (.int vf), .unset] [(.int (0 : Int32)), (.ref b54), (.ref b54)]))
  refine OGo.on (fun t k => XS.iload X54.here hx rfl (hb hby at_28) rfl k) ?_
  show OGo p e below s _ _ _ (T54.setTop (mkF m 30 #[.val (.int vseed), .val (.long vv), .second, .val (.int vcs), .val (.int vfs), .val (.int (Int32.ofNat on)), .val (.int (Int32.ofNat cn)), .val (.int vf), .unset] [(.int vf), (.int (0 : Int32)), (.ref b54), (.ref b54)]))
  obtain ⟨T57, h57, X57, e57, W57, A57, st57⟩ := OAL.stB X54 hx hZ e54 V54 (j := (0 : Int32)) (x := vf) (by decide) (by decide : 0 < 12) (Ls := #[.val (.int vseed), .val (.long vv), .second, .val (.int vcs), .val (.int vfs), .val (.int (Int32.ofNat on)), .val (.int (Int32.ofNat cn)), .val (.int vf), .unset]) (rest := [(.ref b54)]) (hb hby at_30)
  have Z58 : n0 ≤ h57.size := Nat.le_trans Z56 (Nat.le_of_eq W57.size.symm)
  have N59 := Fr.snoc X57 N0 ge55
  obtain ⟨Lh60, Xh60, Nh60⟩ := own_hide X57 N59
  have V57 : OAL Z h57 b54 .byte [(nar .byte vf), (0 : Int32), (0 : Int32), (0 : Int32), (0 : Int32), (0 : Int32), (0 : Int32), (0 : Int32), (0 : Int32), (0 : Int32), (0 : Int32), (0 : Int32)] := A57
  refine OGo.on st57 ?_
  show OGo p e below s _ _ _ (T57.setTop (mkF m 31 #[.val (.int vseed), .val (.long vv), .second, .val (.int vcs), .val (.int vfs), .val (.int (Int32.ofNat on)), .val (.int (Int32.ofNat cn)), .val (.int vf), .unset] [(.ref b54)]))
  refine OGo.on (fun t k => XS.dup Xh60.here hx rfl (hb hby at_31) rfl rfl k) ?_
  show OGo p e below s _ _ _ (T57.setTop (mkF m 32 #[.val (.int vseed), .val (.long vv), .second, .val (.int vcs), .val (.int vfs), .val (.int (Int32.ofNat on)), .val (.int (Int32.ofNat cn)), .val (.int vf), .unset] [(.ref b54), (.ref b54)]))
  refine OGo.on (fun t k => XS.iconst Xh60.here hx rfl (hb hby at_32) k) ?_
  show OGo p e below s _ _ _ (T57.setTop (mkF m 33 #[.val (.int vseed), .val (.long vv), .second, .val (.int vcs), .val (.int vfs), .val (.int (Int32.ofNat on)), .val (.int (Int32.ofNat cn)), .val (.int vf), .unset] [(.int (1 : Int32)), (.ref b54), (.ref b54)]))
  refine OGo.on (fun t k => XS.iload Xh60.here hx rfl (hb hby at_33) rfl k) ?_
  show OGo p e below s _ _ _ (T57.setTop (mkF m 35 #[.val (.int vseed), .val (.long vv), .second, .val (.int vcs), .val (.int vfs), .val (.int (Int32.ofNat on)), .val (.int (Int32.ofNat cn)), .val (.int vf), .unset] [(.int vf), (.int (1 : Int32)), (.ref b54), (.ref b54)]))
  obtain ⟨T61, h61, X61, e61, W61, A61, st61⟩ := OAL.stB Xh60 hx hZ e57 V57 (j := (1 : Int32)) (x := vf) (by decide) (by decide : 1 < 12) (Ls := #[.val (.int vseed), .val (.long vv), .second, .val (.int vcs), .val (.int vfs), .val (.int (Int32.ofNat on)), .val (.int (Int32.ofNat cn)), .val (.int vf), .unset]) (rest := [(.ref b54)]) (hb hby at_35)
  have Z62 : n0 ≤ h61.size := Nat.le_trans Z58 (Nat.le_of_eq W61.size.symm)
  have N63 := Fr.snoc X61 Nh60 ge55
  obtain ⟨Lh64, Xh64, Nh64⟩ := own_hide X61 N63
  have V61 : OAL Z h61 b54 .byte [(nar .byte vf), (nar .byte vf), (0 : Int32), (0 : Int32), (0 : Int32), (0 : Int32), (0 : Int32), (0 : Int32), (0 : Int32), (0 : Int32), (0 : Int32), (0 : Int32)] := A61
  refine OGo.on st61 ?_
  show OGo p e below s _ _ _ (T61.setTop (mkF m 36 #[.val (.int vseed), .val (.long vv), .second, .val (.int vcs), .val (.int vfs), .val (.int (Int32.ofNat on)), .val (.int (Int32.ofNat cn)), .val (.int vf), .unset] [(.ref b54)]))
  refine OGo.on (fun t k => XS.dup Xh64.here hx rfl (hb hby at_36) rfl rfl k) ?_
  show OGo p e below s _ _ _ (T61.setTop (mkF m 37 #[.val (.int vseed), .val (.long vv), .second, .val (.int vcs), .val (.int vfs), .val (.int (Int32.ofNat on)), .val (.int (Int32.ofNat cn)), .val (.int vf), .unset] [(.ref b54), (.ref b54)]))
  refine OGo.on (fun t k => XS.iconst Xh64.here hx rfl (hb hby at_37) k) ?_
  show OGo p e below s _ _ _ (T61.setTop (mkF m 38 #[.val (.int vseed), .val (.long vv), .second, .val (.int vcs), .val (.int vfs), .val (.int (Int32.ofNat on)), .val (.int (Int32.ofNat cn)), .val (.int vf), .unset] [(.int (2 : Int32)), (.ref b54), (.ref b54)]))
  refine OGo.on (fun t k => XS.iload Xh64.here hx rfl (hb hby at_38) rfl k) ?_
  show OGo p e below s _ _ _ (T61.setTop (mkF m 40 #[.val (.int vseed), .val (.long vv), .second, .val (.int vcs), .val (.int vfs), .val (.int (Int32.ofNat on)), .val (.int (Int32.ofNat cn)), .val (.int vf), .unset] [(.int vf), (.int (2 : Int32)), (.ref b54), (.ref b54)]))
  obtain ⟨T65, h65, X65, e65, W65, A65, st65⟩ := OAL.stB Xh64 hx hZ e61 V61 (j := (2 : Int32)) (x := vf) (by decide) (by decide : 2 < 12) (Ls := #[.val (.int vseed), .val (.long vv), .second, .val (.int vcs), .val (.int vfs), .val (.int (Int32.ofNat on)), .val (.int (Int32.ofNat cn)), .val (.int vf), .unset]) (rest := [(.ref b54)]) (hb hby at_40)
  have Z66 : n0 ≤ h65.size := Nat.le_trans Z62 (Nat.le_of_eq W65.size.symm)
  have N67 := Fr.snoc X65 Nh64 ge55
  obtain ⟨Lh68, Xh68, Nh68⟩ := own_hide X65 N67
  have V65 : OAL Z h65 b54 .byte [(nar .byte vf), (nar .byte vf), (nar .byte vf), (0 : Int32), (0 : Int32), (0 : Int32), (0 : Int32), (0 : Int32), (0 : Int32), (0 : Int32), (0 : Int32), (0 : Int32)] := A65
  refine OGo.on st65 ?_
  show OGo p e below s _ _ _ (T65.setTop (mkF m 41 #[.val (.int vseed), .val (.long vv), .second, .val (.int vcs), .val (.int vfs), .val (.int (Int32.ofNat on)), .val (.int (Int32.ofNat cn)), .val (.int vf), .unset] [(.ref b54)]))
  refine OGo.on (fun t k => XS.dup Xh68.here hx rfl (hb hby at_41) rfl rfl k) ?_
  show OGo p e below s _ _ _ (T65.setTop (mkF m 42 #[.val (.int vseed), .val (.long vv), .second, .val (.int vcs), .val (.int vfs), .val (.int (Int32.ofNat on)), .val (.int (Int32.ofNat cn)), .val (.int vf), .unset] [(.ref b54), (.ref b54)]))
  refine OGo.on (fun t k => XS.iconst Xh68.here hx rfl (hb hby at_42) k) ?_
  show OGo p e below s _ _ _ (T65.setTop (mkF m 43 #[.val (.int vseed), .val (.long vv), .second, .val (.int vcs), .val (.int vfs), .val (.int (Int32.ofNat on)), .val (.int (Int32.ofNat cn)), .val (.int vf), .unset] [(.int (3 : Int32)), (.ref b54), (.ref b54)]))
  refine OGo.on (fun t k => XS.iload Xh68.here hx rfl (hb hby at_43) rfl k) ?_
  show OGo p e below s _ _ _ (T65.setTop (mkF m 45 #[.val (.int vseed), .val (.long vv), .second, .val (.int vcs), .val (.int vfs), .val (.int (Int32.ofNat on)), .val (.int (Int32.ofNat cn)), .val (.int vf), .unset] [(.int vf), (.int (3 : Int32)), (.ref b54), (.ref b54)]))
  obtain ⟨T69, h69, X69, e69, W69, A69, st69⟩ := OAL.stB Xh68 hx hZ e65 V65 (j := (3 : Int32)) (x := vf) (by decide) (by decide : 3 < 12) (Ls := #[.val (.int vseed), .val (.long vv), .second, .val (.int vcs), .val (.int vfs), .val (.int (Int32.ofNat on)), .val (.int (Int32.ofNat cn)), .val (.int vf), .unset]) (rest := [(.ref b54)]) (hb hby at_45)
  have Z70 : n0 ≤ h69.size := Nat.le_trans Z66 (Nat.le_of_eq W69.size.symm)
  have N71 := Fr.snoc X69 Nh68 ge55
  obtain ⟨Lh72, Xh72, Nh72⟩ := own_hide X69 N71
  have V69 : OAL Z h69 b54 .byte [(nar .byte vf), (nar .byte vf), (nar .byte vf), (nar .byte vf), (0 : Int32), (0 : Int32), (0 : Int32), (0 : Int32), (0 : Int32), (0 : Int32), (0 : Int32), (0 : Int32)] := A69
  refine OGo.on st69 ?_
  show OGo p e below s _ _ _ (T69.setTop (mkF m 46 #[.val (.int vseed), .val (.long vv), .second, .val (.int vcs), .val (.int vfs), .val (.int (Int32.ofNat on)), .val (.int (Int32.ofNat cn)), .val (.int vf), .unset] [(.ref b54)]))
  refine OGo.on (fun t k => XS.dup Xh72.here hx rfl (hb hby at_46) rfl rfl k) ?_
  show OGo p e below s _ _ _ (T69.setTop (mkF m 47 #[.val (.int vseed), .val (.long vv), .second, .val (.int vcs), .val (.int vfs), .val (.int (Int32.ofNat on)), .val (.int (Int32.ofNat cn)), .val (.int vf), .unset] [(.ref b54), (.ref b54)]))
  refine OGo.on (fun t k => XS.iconst Xh72.here hx rfl (hb hby at_47) k) ?_
  show OGo p e below s _ _ _ (T69.setTop (mkF m 48 #[.val (.int vseed), .val (.long vv), .second, .val (.int vcs), .val (.int vfs), .val (.int (Int32.ofNat on)), .val (.int (Int32.ofNat cn)), .val (.int vf), .unset] [(.int (4 : Int32)), (.ref b54), (.ref b54)]))
  refine OGo.on (fun t k => XS.iload Xh72.here hx rfl (hb hby at_48) rfl k) ?_
  show OGo p e below s _ _ _ (T69.setTop (mkF m 50 #[.val (.int vseed), .val (.long vv), .second, .val (.int vcs), .val (.int vfs), .val (.int (Int32.ofNat on)), .val (.int (Int32.ofNat cn)), .val (.int vf), .unset] [(.int vf), (.int (4 : Int32)), (.ref b54), (.ref b54)]))
  obtain ⟨T73, h73, X73, e73, W73, A73, st73⟩ := OAL.stB Xh72 hx hZ e69 V69 (j := (4 : Int32)) (x := vf) (by decide) (by decide : 4 < 12) (Ls := #[.val (.int vseed), .val (.long vv), .second, .val (.int vcs), .val (.int vfs), .val (.int (Int32.ofNat on)), .val (.int (Int32.ofNat cn)), .val (.int vf), .unset]) (rest := [(.ref b54)]) (hb hby at_50)
  have Z74 : n0 ≤ h73.size := Nat.le_trans Z70 (Nat.le_of_eq W73.size.symm)
  have N75 := Fr.snoc X73 Nh72 ge55
  obtain ⟨Lh76, Xh76, Nh76⟩ := own_hide X73 N75
  have V73 : OAL Z h73 b54 .byte [(nar .byte vf), (nar .byte vf), (nar .byte vf), (nar .byte vf), (nar .byte vf), (0 : Int32), (0 : Int32), (0 : Int32), (0 : Int32), (0 : Int32), (0 : Int32), (0 : Int32)] := A73
  refine OGo.on st73 ?_
  show OGo p e below s _ _ _ (T73.setTop (mkF m 51 #[.val (.int vseed), .val (.long vv), .second, .val (.int vcs), .val (.int vfs), .val (.int (Int32.ofNat on)), .val (.int (Int32.ofNat cn)), .val (.int vf), .unset] [(.ref b54)]))
  refine OGo.on (fun t k => XS.dup Xh76.here hx rfl (hb hby at_51) rfl rfl k) ?_
  show OGo p e below s _ _ _ (T73.setTop (mkF m 52 #[.val (.int vseed), .val (.long vv), .second, .val (.int vcs), .val (.int vfs), .val (.int (Int32.ofNat on)), .val (.int (Int32.ofNat cn)), .val (.int vf), .unset] [(.ref b54), (.ref b54)]))
  refine OGo.on (fun t k => XS.iconst Xh76.here hx rfl (hb hby at_52) k) ?_
  show OGo p e below s _ _ _ (T73.setTop (mkF m 53 #[.val (.int vseed), .val (.long vv), .second, .val (.int vcs), .val (.int vfs), .val (.int (Int32.ofNat on)), .val (.int (Int32.ofNat cn)), .val (.int vf), .unset] [(.int (5 : Int32)), (.ref b54), (.ref b54)]))
  refine OGo.on (fun t k => XS.iload Xh76.here hx rfl (hb hby at_53) rfl k) ?_
  show OGo p e below s _ _ _ (T73.setTop (mkF m 55 #[.val (.int vseed), .val (.long vv), .second, .val (.int vcs), .val (.int vfs), .val (.int (Int32.ofNat on)), .val (.int (Int32.ofNat cn)), .val (.int vf), .unset] [(.int vf), (.int (5 : Int32)), (.ref b54), (.ref b54)]))
  obtain ⟨T77, h77, X77, e77, W77, A77, st77⟩ := OAL.stB Xh76 hx hZ e73 V73 (j := (5 : Int32)) (x := vf) (by decide) (by decide : 5 < 12) (Ls := #[.val (.int vseed), .val (.long vv), .second, .val (.int vcs), .val (.int vfs), .val (.int (Int32.ofNat on)), .val (.int (Int32.ofNat cn)), .val (.int vf), .unset]) (rest := [(.ref b54)]) (hb hby at_55)
  have Z78 : n0 ≤ h77.size := Nat.le_trans Z74 (Nat.le_of_eq W77.size.symm)
  have N79 := Fr.snoc X77 Nh76 ge55
  obtain ⟨Lh80, Xh80, Nh80⟩ := own_hide X77 N79
  have V77 : OAL Z h77 b54 .byte [(nar .byte vf), (nar .byte vf), (nar .byte vf), (nar .byte vf), (nar .byte vf), (nar .byte vf), (0 : Int32), (0 : Int32), (0 : Int32), (0 : Int32), (0 : Int32), (0 : Int32)] := A77
  refine OGo.on st77 ?_
  show OGo p e below s _ _ _ (T77.setTop (mkF m 56 #[.val (.int vseed), .val (.long vv), .second, .val (.int vcs), .val (.int vfs), .val (.int (Int32.ofNat on)), .val (.int (Int32.ofNat cn)), .val (.int vf), .unset] [(.ref b54)]))
  refine OGo.on (fun t k => XS.dup Xh80.here hx rfl (hb hby at_56) rfl rfl k) ?_
  show OGo p e below s _ _ _ (T77.setTop (mkF m 57 #[.val (.int vseed), .val (.long vv), .second, .val (.int vcs), .val (.int vfs), .val (.int (Int32.ofNat on)), .val (.int (Int32.ofNat cn)), .val (.int vf), .unset] [(.ref b54), (.ref b54)]))
  refine OGo.on (fun t k => XS.bipush Xh80.here hx rfl (hb hby at_57) k) ?_
  show OGo p e below s _ _ _ (T77.setTop (mkF m 59 #[.val (.int vseed), .val (.long vv), .second, .val (.int vcs), .val (.int vfs), .val (.int (Int32.ofNat on)), .val (.int (Int32.ofNat cn)), .val (.int vf), .unset] [(.int (6 : Int32)), (.ref b54), (.ref b54)]))
  refine OGo.on (fun t k => XS.iload Xh80.here hx rfl (hb hby at_59) rfl k) ?_
  show OGo p e below s _ _ _ (T77.setTop (mkF m 61 #[.val (.int vseed), .val (.long vv), .second, .val (.int vcs), .val (.int vfs), .val (.int (Int32.ofNat on)), .val (.int (Int32.ofNat cn)), .val (.int vf), .unset] [(.int vf), (.int (6 : Int32)), (.ref b54), (.ref b54)]))
  obtain ⟨T81, h81, X81, e81, W81, A81, st81⟩ := OAL.stB Xh80 hx hZ e77 V77 (j := (6 : Int32)) (x := vf) (by decide) (by decide : 6 < 12) (Ls := #[.val (.int vseed), .val (.long vv), .second, .val (.int vcs), .val (.int vfs), .val (.int (Int32.ofNat on)), .val (.int (Int32.ofNat cn)), .val (.int vf), .unset]) (rest := [(.ref b54)]) (hb hby at_61)
  have Z82 : n0 ≤ h81.size := Nat.le_trans Z78 (Nat.le_of_eq W81.size.symm)
  have N83 := Fr.snoc X81 Nh80 ge55
  obtain ⟨Lh84, Xh84, Nh84⟩ := own_hide X81 N83
  have V81 : OAL Z h81 b54 .byte [(nar .byte vf), (nar .byte vf), (nar .byte vf), (nar .byte vf), (nar .byte vf), (nar .byte vf), (nar .byte vf), (0 : Int32), (0 : Int32), (0 : Int32), (0 : Int32), (0 : Int32)] := A81
  refine OGo.on st81 ?_
  show OGo p e below s _ _ _ (T81.setTop (mkF m 62 #[.val (.int vseed), .val (.long vv), .second, .val (.int vcs), .val (.int vfs), .val (.int (Int32.ofNat on)), .val (.int (Int32.ofNat cn)), .val (.int vf), .unset] [(.ref b54)]))
  refine OGo.on (fun t k => XS.dup Xh84.here hx rfl (hb hby at_62) rfl rfl k) ?_
  show OGo p e below s _ _ _ (T81.setTop (mkF m 63 #[.val (.int vseed), .val (.long vv), .second, .val (.int vcs), .val (.int vfs), .val (.int (Int32.ofNat on)), .val (.int (Int32.ofNat cn)), .val (.int vf), .unset] [(.ref b54), (.ref b54)]))
  refine OGo.on (fun t k => XS.bipush Xh84.here hx rfl (hb hby at_63) k) ?_
  show OGo p e below s _ _ _ (T81.setTop (mkF m 65 #[.val (.int vseed), .val (.long vv), .second, .val (.int vcs), .val (.int vfs), .val (.int (Int32.ofNat on)), .val (.int (Int32.ofNat cn)), .val (.int vf), .unset] [(.int (7 : Int32)), (.ref b54), (.ref b54)]))
  refine OGo.on (fun t k => XS.iload Xh84.here hx rfl (hb hby at_65) rfl k) ?_
  show OGo p e below s _ _ _ (T81.setTop (mkF m 67 #[.val (.int vseed), .val (.long vv), .second, .val (.int vcs), .val (.int vfs), .val (.int (Int32.ofNat on)), .val (.int (Int32.ofNat cn)), .val (.int vf), .unset] [(.int vf), (.int (7 : Int32)), (.ref b54), (.ref b54)]))
  obtain ⟨T85, h85, X85, e85, W85, A85, st85⟩ := OAL.stB Xh84 hx hZ e81 V81 (j := (7 : Int32)) (x := vf) (by decide) (by decide : 7 < 12) (Ls := #[.val (.int vseed), .val (.long vv), .second, .val (.int vcs), .val (.int vfs), .val (.int (Int32.ofNat on)), .val (.int (Int32.ofNat cn)), .val (.int vf), .unset]) (rest := [(.ref b54)]) (hb hby at_67)
  have Z86 : n0 ≤ h85.size := Nat.le_trans Z82 (Nat.le_of_eq W85.size.symm)
  have N87 := Fr.snoc X85 Nh84 ge55
  obtain ⟨Lh88, Xh88, Nh88⟩ := own_hide X85 N87
  have V85 : OAL Z h85 b54 .byte [(nar .byte vf), (nar .byte vf), (nar .byte vf), (nar .byte vf), (nar .byte vf), (nar .byte vf), (nar .byte vf), (nar .byte vf), (0 : Int32), (0 : Int32), (0 : Int32), (0 : Int32)] := A85
  refine OGo.on st85 ?_
  show OGo p e below s _ _ _ (T85.setTop (mkF m 68 #[.val (.int vseed), .val (.long vv), .second, .val (.int vcs), .val (.int vfs), .val (.int (Int32.ofNat on)), .val (.int (Int32.ofNat cn)), .val (.int vf), .unset] [(.ref b54)]))
  refine OGo.on (fun t k => XS.dup Xh88.here hx rfl (hb hby at_68) rfl rfl k) ?_
  show OGo p e below s _ _ _ (T85.setTop (mkF m 69 #[.val (.int vseed), .val (.long vv), .second, .val (.int vcs), .val (.int vfs), .val (.int (Int32.ofNat on)), .val (.int (Int32.ofNat cn)), .val (.int vf), .unset] [(.ref b54), (.ref b54)]))
  refine OGo.on (fun t k => XS.bipush Xh88.here hx rfl (hb hby at_69) k) ?_
  show OGo p e below s _ _ _ (T85.setTop (mkF m 71 #[.val (.int vseed), .val (.long vv), .second, .val (.int vcs), .val (.int vfs), .val (.int (Int32.ofNat on)), .val (.int (Int32.ofNat cn)), .val (.int vf), .unset] [(.int (8 : Int32)), (.ref b54), (.ref b54)]))
  refine OGo.on (fun t k => XS.iload Xh88.here hx rfl (hb hby at_71) rfl k) ?_
  show OGo p e below s _ _ _ (T85.setTop (mkF m 73 #[.val (.int vseed), .val (.long vv), .second, .val (.int vcs), .val (.int vfs), .val (.int (Int32.ofNat on)), .val (.int (Int32.ofNat cn)), .val (.int vf), .unset] [(.int vf), (.int (8 : Int32)), (.ref b54), (.ref b54)]))
  obtain ⟨T89, h89, X89, e89, W89, A89, st89⟩ := OAL.stB Xh88 hx hZ e85 V85 (j := (8 : Int32)) (x := vf) (by decide) (by decide : 8 < 12) (Ls := #[.val (.int vseed), .val (.long vv), .second, .val (.int vcs), .val (.int vfs), .val (.int (Int32.ofNat on)), .val (.int (Int32.ofNat cn)), .val (.int vf), .unset]) (rest := [(.ref b54)]) (hb hby at_73)
  have Z90 : n0 ≤ h89.size := Nat.le_trans Z86 (Nat.le_of_eq W89.size.symm)
  have N91 := Fr.snoc X89 Nh88 ge55
  obtain ⟨Lh92, Xh92, Nh92⟩ := own_hide X89 N91
  have V89 : OAL Z h89 b54 .byte [(nar .byte vf), (nar .byte vf), (nar .byte vf), (nar .byte vf), (nar .byte vf), (nar .byte vf), (nar .byte vf), (nar .byte vf), (nar .byte vf), (0 : Int32), (0 : Int32), (0 : Int32)] := A89
  refine OGo.on st89 ?_
  show OGo p e below s _ _ _ (T89.setTop (mkF m 74 #[.val (.int vseed), .val (.long vv), .second, .val (.int vcs), .val (.int vfs), .val (.int (Int32.ofNat on)), .val (.int (Int32.ofNat cn)), .val (.int vf), .unset] [(.ref b54)]))
  refine OGo.on (fun t k => XS.dup Xh92.here hx rfl (hb hby at_74) rfl rfl k) ?_
  show OGo p e below s _ _ _ (T89.setTop (mkF m 75 #[.val (.int vseed), .val (.long vv), .second, .val (.int vcs), .val (.int vfs), .val (.int (Int32.ofNat on)), .val (.int (Int32.ofNat cn)), .val (.int vf), .unset] [(.ref b54), (.ref b54)]))
  refine OGo.on (fun t k => XS.bipush Xh92.here hx rfl (hb hby at_75) k) ?_
  show OGo p e below s _ _ _ (T89.setTop (mkF m 77 #[.val (.int vseed), .val (.long vv), .second, .val (.int vcs), .val (.int vfs), .val (.int (Int32.ofNat on)), .val (.int (Int32.ofNat cn)), .val (.int vf), .unset] [(.int (9 : Int32)), (.ref b54), (.ref b54)]))
  refine OGo.on (fun t k => XS.iload Xh92.here hx rfl (hb hby at_77) rfl k) ?_
  show OGo p e below s _ _ _ (T89.setTop (mkF m 79 #[.val (.int vseed), .val (.long vv), .second, .val (.int vcs), .val (.int vfs), .val (.int (Int32.ofNat on)), .val (.int (Int32.ofNat cn)), .val (.int vf), .unset] [(.int vf), (.int (9 : Int32)), (.ref b54), (.ref b54)]))
  obtain ⟨T93, h93, X93, e93, W93, A93, st93⟩ := OAL.stB Xh92 hx hZ e89 V89 (j := (9 : Int32)) (x := vf) (by decide) (by decide : 9 < 12) (Ls := #[.val (.int vseed), .val (.long vv), .second, .val (.int vcs), .val (.int vfs), .val (.int (Int32.ofNat on)), .val (.int (Int32.ofNat cn)), .val (.int vf), .unset]) (rest := [(.ref b54)]) (hb hby at_79)
  have Z94 : n0 ≤ h93.size := Nat.le_trans Z90 (Nat.le_of_eq W93.size.symm)
  have N95 := Fr.snoc X93 Nh92 ge55
  obtain ⟨Lh96, Xh96, Nh96⟩ := own_hide X93 N95
  have V93 : OAL Z h93 b54 .byte [(nar .byte vf), (nar .byte vf), (nar .byte vf), (nar .byte vf), (nar .byte vf), (nar .byte vf), (nar .byte vf), (nar .byte vf), (nar .byte vf), (nar .byte vf), (0 : Int32), (0 : Int32)] := A93
  refine OGo.on st93 ?_
  show OGo p e below s _ _ _ (T93.setTop (mkF m 80 #[.val (.int vseed), .val (.long vv), .second, .val (.int vcs), .val (.int vfs), .val (.int (Int32.ofNat on)), .val (.int (Int32.ofNat cn)), .val (.int vf), .unset] [(.ref b54)]))
  refine OGo.on (fun t k => XS.dup Xh96.here hx rfl (hb hby at_80) rfl rfl k) ?_
  show OGo p e below s _ _ _ (T93.setTop (mkF m 81 #[.val (.int vseed), .val (.long vv), .second, .val (.int vcs), .val (.int vfs), .val (.int (Int32.ofNat on)), .val (.int (Int32.ofNat cn)), .val (.int vf), .unset] [(.ref b54), (.ref b54)]))
  refine OGo.on (fun t k => XS.bipush Xh96.here hx rfl (hb hby at_81) k) ?_
  show OGo p e below s _ _ _ (T93.setTop (mkF m 83 #[.val (.int vseed), .val (.long vv), .second, .val (.int vcs), .val (.int vfs), .val (.int (Int32.ofNat on)), .val (.int (Int32.ofNat cn)), .val (.int vf), .unset] [(.int (10 : Int32)), (.ref b54), (.ref b54)]))
  refine OGo.on (fun t k => XS.iload Xh96.here hx rfl (hb hby at_83) rfl k) ?_
  show OGo p e below s _ _ _ (T93.setTop (mkF m 85 #[.val (.int vseed), .val (.long vv), .second, .val (.int vcs), .val (.int vfs), .val (.int (Int32.ofNat on)), .val (.int (Int32.ofNat cn)), .val (.int vf), .unset] [(.int vf), (.int (10 : Int32)), (.ref b54), (.ref b54)]))
  obtain ⟨T97, h97, X97, e97, W97, A97, st97⟩ := OAL.stB Xh96 hx hZ e93 V93 (j := (10 : Int32)) (x := vf) (by decide) (by decide : 10 < 12) (Ls := #[.val (.int vseed), .val (.long vv), .second, .val (.int vcs), .val (.int vfs), .val (.int (Int32.ofNat on)), .val (.int (Int32.ofNat cn)), .val (.int vf), .unset]) (rest := [(.ref b54)]) (hb hby at_85)
  have Z98 : n0 ≤ h97.size := Nat.le_trans Z94 (Nat.le_of_eq W97.size.symm)
  have N99 := Fr.snoc X97 Nh96 ge55
  obtain ⟨Lh100, Xh100, Nh100⟩ := own_hide X97 N99
  have V97 : OAL Z h97 b54 .byte [(nar .byte vf), (nar .byte vf), (nar .byte vf), (nar .byte vf), (nar .byte vf), (nar .byte vf), (nar .byte vf), (nar .byte vf), (nar .byte vf), (nar .byte vf), (nar .byte vf), (0 : Int32)] := A97
  refine OGo.on st97 ?_
  show OGo p e below s _ _ _ (T97.setTop (mkF m 86 #[.val (.int vseed), .val (.long vv), .second, .val (.int vcs), .val (.int vfs), .val (.int (Int32.ofNat on)), .val (.int (Int32.ofNat cn)), .val (.int vf), .unset] [(.ref b54)]))
  refine OGo.on (fun t k => XS.dup Xh100.here hx rfl (hb hby at_86) rfl rfl k) ?_
  show OGo p e below s _ _ _ (T97.setTop (mkF m 87 #[.val (.int vseed), .val (.long vv), .second, .val (.int vcs), .val (.int vfs), .val (.int (Int32.ofNat on)), .val (.int (Int32.ofNat cn)), .val (.int vf), .unset] [(.ref b54), (.ref b54)]))
  refine OGo.on (fun t k => XS.bipush Xh100.here hx rfl (hb hby at_87) k) ?_
  show OGo p e below s _ _ _ (T97.setTop (mkF m 89 #[.val (.int vseed), .val (.long vv), .second, .val (.int vcs), .val (.int vfs), .val (.int (Int32.ofNat on)), .val (.int (Int32.ofNat cn)), .val (.int vf), .unset] [(.int (11 : Int32)), (.ref b54), (.ref b54)]))
  refine OGo.on (fun t k => XS.iload Xh100.here hx rfl (hb hby at_89) rfl k) ?_
  show OGo p e below s _ _ _ (T97.setTop (mkF m 91 #[.val (.int vseed), .val (.long vv), .second, .val (.int vcs), .val (.int vfs), .val (.int (Int32.ofNat on)), .val (.int (Int32.ofNat cn)), .val (.int vf), .unset] [(.int vf), (.int (11 : Int32)), (.ref b54), (.ref b54)]))
  obtain ⟨T101, h101, X101, e101, W101, A101, st101⟩ := OAL.stB Xh100 hx hZ e97 V97 (j := (11 : Int32)) (x := vf) (by decide) (by decide : 11 < 12) (Ls := #[.val (.int vseed), .val (.long vv), .second, .val (.int vcs), .val (.int vfs), .val (.int (Int32.ofNat on)), .val (.int (Int32.ofNat cn)), .val (.int vf), .unset]) (rest := [(.ref b54)]) (hb hby at_91)
  have Z102 : n0 ≤ h101.size := Nat.le_trans Z98 (Nat.le_of_eq W101.size.symm)
  have N103 := Fr.snoc X101 Nh100 ge55
  obtain ⟨Lh104, Xh104, Nh104⟩ := own_hide X101 N103
  have V101 : OAL Z h101 b54 .byte [(nar .byte vf), (nar .byte vf), (nar .byte vf), (nar .byte vf), (nar .byte vf), (nar .byte vf), (nar .byte vf), (nar .byte vf), (nar .byte vf), (nar .byte vf), (nar .byte vf), (nar .byte vf)] := A101
  refine OGo.on st101 ?_
  show OGo p e below s _ _ _ (T101.setTop (mkF m 92 #[.val (.int vseed), .val (.long vv), .second, .val (.int vcs), .val (.int vfs), .val (.int (Int32.ofNat on)), .val (.int (Int32.ofNat cn)), .val (.int vf), .unset] [(.ref b54)]))
  refine OGo.on (fun t k => XS.astore Xh104.here hx rfl (hb hby at_92) rfl rfl (l' := #[.val (.int vseed), .val (.long vv), .second, .val (.int vcs), .val (.int vfs), .val (.int (Int32.ofNat on)), .val (.int (Int32.ofNat cn)), .val (.int vf), .val (.ref b54)]) rfl k) ?_
  show OGo p e below s _ _ _ (T101.setTop (mkF m 94 #[.val (.int vseed), .val (.long vv), .second, .val (.int vcs), .val (.int vfs), .val (.int (Int32.ofNat on)), .val (.int (Int32.ofNat cn)), .val (.int vf), .val (.ref b54)] []))
  refine OGo.on (fun t k => XS.aload Xh104.here hx rfl (hb hby at_94) rfl rfl k) ?_
  show OGo p e below s _ _ _ (T101.setTop (mkF m 96 #[.val (.int vseed), .val (.long vv), .second, .val (.int vcs), .val (.int vfs), .val (.int (Int32.ofNat on)), .val (.int (Int32.ofNat cn)), .val (.int vf), .val (.ref b54)] [(.ref b54)]))
  refine OGo.on (fun t k => XS.iload Xh104.here hx rfl (hb hby at_96) rfl k) ?_
  show OGo p e below s _ _ _ (T101.setTop (mkF m 98 #[.val (.int vseed), .val (.long vv), .second, .val (.int vcs), .val (.int vfs), .val (.int (Int32.ofNat on)), .val (.int (Int32.ofNat cn)), .val (.int vf), .val (.ref b54)] [(.int (Int32.ofNat on)), (.ref b54)]))
  refine OGo.on (fun t k => XS.lloadN Xh104.here hx rfl (hb hby at_98) rfl k) ?_
  show OGo p e below s _ _ _ (T101.setTop (mkF m 99 #[.val (.int vseed), .val (.long vv), .second, .val (.int vcs), .val (.int vfs), .val (.int (Int32.ofNat on)), .val (.int (Int32.ofNat cn)), .val (.int vf), .val (.ref b54)] [(.long vv), (.int (Int32.ofNat on)), (.ref b54)]))
  refine OGo.on (fun t k => XS.iload Xh104.here hx rfl (hb hby at_99) rfl k) ?_
  show OGo p e below s _ _ _ (T101.setTop (mkF m 101 #[.val (.int vseed), .val (.long vv), .second, .val (.int vcs), .val (.int vfs), .val (.int (Int32.ofNat on)), .val (.int (Int32.ofNat cn)), .val (.int vf), .val (.ref b54)] [(.int (Int32.ofNat cn)), (.long vv), (.int (Int32.ofNat on)), (.ref b54)]))
  have V105 : OAL Z h101 b54 .byte [vf, vf, vf, vf, vf, vf, vf, vf, vf, vf, vf, vf] := by have q := V101; rw [hf] at q; exact q
  obtain ⟨_, _, ⟨T105, L105, k105, n105⟩, -, X105, ⟨Lc105, hQ105, l105, y105, z105⟩, st105⟩ := Jvm.LawKit.callS Xh104 hx (y := (⟨"com/example/libmsgframe/libmsgframe/dsa2/LittleEndian", "putLowBytes", "([BIJI)V"⟩ : MethodName)) hown (mvT hZ (hw _ (List.mem_of_getElem? (i := 2) rfl))) (mvT hZ (hw _ (List.mem_of_getElem? (i := 3) rfl))) (mvT hZ (hw _ (List.mem_of_getElem? (i := 4) rfl))) (mvT hZ (hw _ (List.mem_of_getElem? (i := 5) rfl))) (by decide) (backOf (W := 0) (own_mput l Z a0 hw [] b54 on vv cn [vf, vf, vf, vf, vf, vf, vf, vf, vf, vf, vf, vf] h101 n0 Z102 ge55 hon hcn rfl V105) hZ (hw _ (List.mem_of_getElem? (i := 5) rfl)) (hw _ (List.mem_of_getElem? (i := 4) rfl)) (by decide) (by decide)) (g := (mkF m 101 #[.val (.int vseed), .val (.long vv), .second, .val (.int vcs), .val (.int vfs), .val (.int (Int32.ofNat on)), .val (.int (Int32.ofNat cn)), .val (.int vf), .val (.ref b54)] [(.int (Int32.ofNat cn)), (.long vv), (.int (Int32.ofNat on)), (.ref b54)])) rfl (by rw [hml]; rfl) (argsL := [(.ref b54), (.int (Int32.ofNat on)), (.long vv), (.int (Int32.ofNat cn))]) (rest := []) (lenOf own_pd0 rfl) rfl (by show 2 * 0 + _ ≤ _; exact Nat.le_of_eq rfl) (hb hby at_101) (fun _ _ => ⟨rfl, e101, (by decide : 1 + 0 ≤ _), (by decide : 12 + 0 ≤ _)⟩)
  dsimp only [Pt.U, Pt.locs, Pt.cells, Pt.slots] at X105 l105 y105 z105 st105 hQ105
  subst l105 y105 z105
  obtain ⟨rfl, N105q, K105, A105⟩ := hQ105
  have N105 := Fr.app Nh104 N105q
  have Z106 : n0 ≤ T105.heap.size := Nat.le_trans Z102 K105.1
  have eh105 : T105.heap = T105.heap := rfl
  obtain ⟨Lh107, Xh107, Nh107⟩ := own_hide X105 N105
  refine OGo.on st105 ?_
  show OGo p e below s _ _ _ (T105.setTop (mkF m 104 #[.val (.int vseed), .val (.long vv), .second, .val (.int vcs), .val (.int vfs), .val (.int (Int32.ofNat on)), .val (.int (Int32.ofNat cn)), .val (.int vf), .val (.ref b54)] []))
  refine OGo.on (fun t k => XS.aload Xh107.here hx rfl (hb hby at_104) rfl rfl k) ?_
  show OGo p e below s _ _ _ (T105.setTop (mkF m 106 #[.val (.int vseed), .val (.long vv), .second, .val (.int vcs), .val (.int vfs), .val (.int (Int32.ofNat on)), .val (.int (Int32.ofNat cn)), .val (.int vf), .val (.ref b54)] [(.ref b54)]))
  refine OGo.on (fun t k => XS.iconst Xh107.here hx rfl (hb hby at_106) k) ?_
  show OGo p e below s _ _ _ (T105.setTop (mkF m 107 #[.val (.int vseed), .val (.long vv), .second, .val (.int vcs), .val (.int vfs), .val (.int (Int32.ofNat on)), .val (.int (Int32.ofNat cn)), .val (.int vf), .val (.ref b54)] [(.int (0 : Int32)), (.ref b54)]))
  refine OGo.on (fun t k => XS.iload Xh107.here hx rfl (hb hby at_107) rfl k) ?_
  show OGo p e below s _ _ _ (T105.setTop (mkF m 109 #[.val (.int vseed), .val (.long vv), .second, .val (.int vcs), .val (.int vfs), .val (.int (Int32.ofNat on)), .val (.int (Int32.ofNat cn)), .val (.int vf), .val (.ref b54)] [(.int (Int32.ofNat on)), (.int (0 : Int32)), (.ref b54)]))
  refine OGo.on (fun t k => XS.iload Xh107.here hx rfl (hb hby at_109) rfl k) ?_
  show OGo p e below s _ _ _ (T105.setTop (mkF m 111 #[.val (.int vseed), .val (.long vv), .second, .val (.int vcs), .val (.int vfs), .val (.int (Int32.ofNat on)), .val (.int (Int32.ofNat cn)), .val (.int vf), .val (.ref b54)] [(.int (Int32.ofNat cn)), (.int (Int32.ofNat on)), (.int (0 : Int32)), (.ref b54)]))
  refine OGo.on (fun t k => XS.lloadN Xh107.here hx rfl (hb hby at_111) rfl k) ?_
  show OGo p e below s _ _ _ (T105.setTop (mkF m 112 #[.val (.int vseed), .val (.long vv), .second, .val (.int vcs), .val (.int vfs), .val (.int (Int32.ofNat on)), .val (.int (Int32.ofNat cn)), .val (.int vf), .val (.ref b54)] [(.long vv), (.int (Int32.ofNat cn)), (.int (Int32.ofNat on)), (.int (0 : Int32)), (.ref b54)]))
  refine OGo.on (fun t k => XS.iload Xh107.here hx rfl (hb hby at_112) rfl k) ?_
  show OGo p e below s _ _ _ (T105.setTop (mkF m 114 #[.val (.int vseed), .val (.long vv), .second, .val (.int vcs), .val (.int vfs), .val (.int (Int32.ofNat on)), .val (.int (Int32.ofNat cn)), .val (.int vf), .val (.ref b54)] [(.int vf), (.long vv), (.int (Int32.ofNat cn)), (.int (Int32.ofNat on)), (.int (0 : Int32)), (.ref b54)]))
  obtain ⟨_, _, ⟨T108, L108, k108, n108⟩, -, X108, ⟨Lc108, hQ108, l108, y108, z108⟩, st108⟩ := Jvm.LawKit.callS Xh107 hx (y := (⟨"com/example/libmsgframe/libmsgframe/dsa2/LittleEndianPutLowBytesPinLaw", "ok", "([BIIIJB)Z"⟩ : MethodName)) hown (mvT hZ (hw _ (List.mem_of_getElem? (i := 6) rfl))) (mvT hZ (hw _ (List.mem_of_getElem? (i := 7) rfl))) (mvT hZ (hw _ (List.mem_of_getElem? (i := 8) rfl))) (mvT hZ (hw _ (List.mem_of_getElem? (i := 9) rfl))) (by decide) (backOf (W := 0) (own_mok l Z a0 hw [] b54 (0 : Int32) (Int32.ofNat on) (Int32.ofNat cn) vv vf (own_el on cn vv vf 0) _ T105.heap n0 Z106 A105 (own_at on cn vv vf 0 hon hcn (by decide))) hZ (hw _ (List.mem_of_getElem? (i := 9) rfl)) (hw _ (List.mem_of_getElem? (i := 8) rfl)) (by decide) (by decide)) (g := (mkF m 114 #[.val (.int vseed), .val (.long vv), .second, .val (.int vcs), .val (.int vfs), .val (.int (Int32.ofNat on)), .val (.int (Int32.ofNat cn)), .val (.int vf), .val (.ref b54)] [(.int vf), (.long vv), (.int (Int32.ofNat cn)), (.int (Int32.ofNat on)), (.int (0 : Int32)), (.ref b54)])) rfl (by rw [hml]; rfl) (argsL := [(.ref b54), (.int (0 : Int32)), (.int (Int32.ofNat on)), (.int (Int32.ofNat cn)), (.long vv), (.int vf)]) (rest := []) (lenOf own_pd1 rfl) rfl (by show 2 * 0 + _ ≤ _; exact Nat.le_of_eq rfl) (hb hby at_114) (fun _ _ => ⟨rfl, eh105, (by decide : 1 + 0 ≤ _), (by decide : 12 + 0 ≤ _)⟩)
  dsimp only [Pt.U, Pt.locs, Pt.cells, Pt.slots] at X108 l108 y108 z108 st108 hQ108
  subst l108 y108 z108
  obtain ⟨rfl, N108q, e108⟩ := hQ108
  have N108 := Fr.app Nh107 N108q
  obtain ⟨Lh109, Xh109, Nh109⟩ := own_hide X108 N108
  refine OGo.on st108 ?_
  show OGo p e below s _ _ _ (T108.setTop (mkF m 117 #[.val (.int vseed), .val (.long vv), .second, .val (.int vcs), .val (.int vfs), .val (.int (Int32.ofNat on)), .val (.int (Int32.ofNat cn)), .val (.int vf), .val (.ref b54)] [(.int (own_ok (own_el on cn vv vf 0) (0 : Int32) (Int32.ofNat on) (Int32.ofNat cn) vv vf))]))
  refine OGo.on (fun t k => XS.ifNo Xh109.here hx rfl (hb hby at_117) rfl ((if0 _ _).trans (feq (own_n0 (own_okk on cn vv vf 0 hon hcn (by decide)))).1) k) ?_
  show OGo p e below s _ _ _ (T108.setTop (mkF m 120 #[.val (.int vseed), .val (.long vv), .second, .val (.int vcs), .val (.int vfs), .val (.int (Int32.ofNat on)), .val (.int (Int32.ofNat cn)), .val (.int vf), .val (.ref b54)] []))
  refine OGo.on (fun t k => XS.aload Xh109.here hx rfl (hb hby at_120) rfl rfl k) ?_
  show OGo p e below s _ _ _ (T108.setTop (mkF m 122 #[.val (.int vseed), .val (.long vv), .second, .val (.int vcs), .val (.int vfs), .val (.int (Int32.ofNat on)), .val (.int (Int32.ofNat cn)), .val (.int vf), .val (.ref b54)] [(.ref b54)]))
  refine OGo.on (fun t k => XS.iconst Xh109.here hx rfl (hb hby at_122) k) ?_
  show OGo p e below s _ _ _ (T108.setTop (mkF m 123 #[.val (.int vseed), .val (.long vv), .second, .val (.int vcs), .val (.int vfs), .val (.int (Int32.ofNat on)), .val (.int (Int32.ofNat cn)), .val (.int vf), .val (.ref b54)] [(.int (1 : Int32)), (.ref b54)]))
  refine OGo.on (fun t k => XS.iload Xh109.here hx rfl (hb hby at_123) rfl k) ?_
  show OGo p e below s _ _ _ (T108.setTop (mkF m 125 #[.val (.int vseed), .val (.long vv), .second, .val (.int vcs), .val (.int vfs), .val (.int (Int32.ofNat on)), .val (.int (Int32.ofNat cn)), .val (.int vf), .val (.ref b54)] [(.int (Int32.ofNat on)), (.int (1 : Int32)), (.ref b54)]))
  refine OGo.on (fun t k => XS.iload Xh109.here hx rfl (hb hby at_125) rfl k) ?_
  show OGo p e below s _ _ _ (T108.setTop (mkF m 127 #[.val (.int vseed), .val (.long vv), .second, .val (.int vcs), .val (.int vfs), .val (.int (Int32.ofNat on)), .val (.int (Int32.ofNat cn)), .val (.int vf), .val (.ref b54)] [(.int (Int32.ofNat cn)), (.int (Int32.ofNat on)), (.int (1 : Int32)), (.ref b54)]))
  refine OGo.on (fun t k => XS.lloadN Xh109.here hx rfl (hb hby at_127) rfl k) ?_
  show OGo p e below s _ _ _ (T108.setTop (mkF m 128 #[.val (.int vseed), .val (.long vv), .second, .val (.int vcs), .val (.int vfs), .val (.int (Int32.ofNat on)), .val (.int (Int32.ofNat cn)), .val (.int vf), .val (.ref b54)] [(.long vv), (.int (Int32.ofNat cn)), (.int (Int32.ofNat on)), (.int (1 : Int32)), (.ref b54)]))
  refine OGo.on (fun t k => XS.iload Xh109.here hx rfl (hb hby at_128) rfl k) ?_
  show OGo p e below s _ _ _ (T108.setTop (mkF m 130 #[.val (.int vseed), .val (.long vv), .second, .val (.int vcs), .val (.int vfs), .val (.int (Int32.ofNat on)), .val (.int (Int32.ofNat cn)), .val (.int vf), .val (.ref b54)] [(.int vf), (.long vv), (.int (Int32.ofNat cn)), (.int (Int32.ofNat on)), (.int (1 : Int32)), (.ref b54)]))
  obtain ⟨_, _, ⟨T110, L110, k110, n110⟩, -, X110, ⟨Lc110, hQ110, l110, y110, z110⟩, st110⟩ := Jvm.LawKit.callS Xh109 hx (y := (⟨"com/example/libmsgframe/libmsgframe/dsa2/LittleEndianPutLowBytesPinLaw", "ok", "([BIIIJB)Z"⟩ : MethodName)) hown (mvT hZ (hw _ (List.mem_of_getElem? (i := 6) rfl))) (mvT hZ (hw _ (List.mem_of_getElem? (i := 7) rfl))) (mvT hZ (hw _ (List.mem_of_getElem? (i := 8) rfl))) (mvT hZ (hw _ (List.mem_of_getElem? (i := 9) rfl))) (by decide) (backOf (W := 0) (own_mok l Z a0 hw [] b54 (1 : Int32) (Int32.ofNat on) (Int32.ofNat cn) vv vf (own_el on cn vv vf 1) _ T105.heap n0 Z106 A105 (own_at on cn vv vf 1 hon hcn (by decide))) hZ (hw _ (List.mem_of_getElem? (i := 9) rfl)) (hw _ (List.mem_of_getElem? (i := 8) rfl)) (by decide) (by decide)) (g := (mkF m 130 #[.val (.int vseed), .val (.long vv), .second, .val (.int vcs), .val (.int vfs), .val (.int (Int32.ofNat on)), .val (.int (Int32.ofNat cn)), .val (.int vf), .val (.ref b54)] [(.int vf), (.long vv), (.int (Int32.ofNat cn)), (.int (Int32.ofNat on)), (.int (1 : Int32)), (.ref b54)])) rfl (by rw [hml]; rfl) (argsL := [(.ref b54), (.int (1 : Int32)), (.int (Int32.ofNat on)), (.int (Int32.ofNat cn)), (.long vv), (.int vf)]) (rest := []) (lenOf own_pd1 rfl) rfl (by show 2 * 0 + _ ≤ _; exact Nat.le_of_eq rfl) (hb hby at_130) (fun _ _ => ⟨rfl, e108, (by decide : 1 + 0 ≤ _), (by decide : 12 + 0 ≤ _)⟩)
  dsimp only [Pt.U, Pt.locs, Pt.cells, Pt.slots] at X110 l110 y110 z110 st110 hQ110
  subst l110 y110 z110
  obtain ⟨rfl, N110q, e110⟩ := hQ110
  have N110 := Fr.app Nh109 N110q
  obtain ⟨Lh111, Xh111, Nh111⟩ := own_hide X110 N110
  refine OGo.on st110 ?_
  show OGo p e below s _ _ _ (T110.setTop (mkF m 133 #[.val (.int vseed), .val (.long vv), .second, .val (.int vcs), .val (.int vfs), .val (.int (Int32.ofNat on)), .val (.int (Int32.ofNat cn)), .val (.int vf), .val (.ref b54)] [(.int (own_ok (own_el on cn vv vf 1) (1 : Int32) (Int32.ofNat on) (Int32.ofNat cn) vv vf))]))
  refine OGo.on (fun t k => XS.ifNo Xh111.here hx rfl (hb hby at_133) rfl ((if0 _ _).trans (feq (own_n0 (own_okk on cn vv vf 1 hon hcn (by decide)))).1) k) ?_
  show OGo p e below s _ _ _ (T110.setTop (mkF m 136 #[.val (.int vseed), .val (.long vv), .second, .val (.int vcs), .val (.int vfs), .val (.int (Int32.ofNat on)), .val (.int (Int32.ofNat cn)), .val (.int vf), .val (.ref b54)] []))
  refine OGo.on (fun t k => XS.aload Xh111.here hx rfl (hb hby at_136) rfl rfl k) ?_
  show OGo p e below s _ _ _ (T110.setTop (mkF m 138 #[.val (.int vseed), .val (.long vv), .second, .val (.int vcs), .val (.int vfs), .val (.int (Int32.ofNat on)), .val (.int (Int32.ofNat cn)), .val (.int vf), .val (.ref b54)] [(.ref b54)]))
  refine OGo.on (fun t k => XS.iconst Xh111.here hx rfl (hb hby at_138) k) ?_
  show OGo p e below s _ _ _ (T110.setTop (mkF m 139 #[.val (.int vseed), .val (.long vv), .second, .val (.int vcs), .val (.int vfs), .val (.int (Int32.ofNat on)), .val (.int (Int32.ofNat cn)), .val (.int vf), .val (.ref b54)] [(.int (2 : Int32)), (.ref b54)]))
  refine OGo.on (fun t k => XS.iload Xh111.here hx rfl (hb hby at_139) rfl k) ?_
  show OGo p e below s _ _ _ (T110.setTop (mkF m 141 #[.val (.int vseed), .val (.long vv), .second, .val (.int vcs), .val (.int vfs), .val (.int (Int32.ofNat on)), .val (.int (Int32.ofNat cn)), .val (.int vf), .val (.ref b54)] [(.int (Int32.ofNat on)), (.int (2 : Int32)), (.ref b54)]))
  refine OGo.on (fun t k => XS.iload Xh111.here hx rfl (hb hby at_141) rfl k) ?_
  show OGo p e below s _ _ _ (T110.setTop (mkF m 143 #[.val (.int vseed), .val (.long vv), .second, .val (.int vcs), .val (.int vfs), .val (.int (Int32.ofNat on)), .val (.int (Int32.ofNat cn)), .val (.int vf), .val (.ref b54)] [(.int (Int32.ofNat cn)), (.int (Int32.ofNat on)), (.int (2 : Int32)), (.ref b54)]))
  refine OGo.on (fun t k => XS.lloadN Xh111.here hx rfl (hb hby at_143) rfl k) ?_
  show OGo p e below s _ _ _ (T110.setTop (mkF m 144 #[.val (.int vseed), .val (.long vv), .second, .val (.int vcs), .val (.int vfs), .val (.int (Int32.ofNat on)), .val (.int (Int32.ofNat cn)), .val (.int vf), .val (.ref b54)] [(.long vv), (.int (Int32.ofNat cn)), (.int (Int32.ofNat on)), (.int (2 : Int32)), (.ref b54)]))
  refine OGo.on (fun t k => XS.iload Xh111.here hx rfl (hb hby at_144) rfl k) ?_
  show OGo p e below s _ _ _ (T110.setTop (mkF m 146 #[.val (.int vseed), .val (.long vv), .second, .val (.int vcs), .val (.int vfs), .val (.int (Int32.ofNat on)), .val (.int (Int32.ofNat cn)), .val (.int vf), .val (.ref b54)] [(.int vf), (.long vv), (.int (Int32.ofNat cn)), (.int (Int32.ofNat on)), (.int (2 : Int32)), (.ref b54)]))
  obtain ⟨_, _, ⟨T112, L112, k112, n112⟩, -, X112, ⟨Lc112, hQ112, l112, y112, z112⟩, st112⟩ := Jvm.LawKit.callS Xh111 hx (y := (⟨"com/example/libmsgframe/libmsgframe/dsa2/LittleEndianPutLowBytesPinLaw", "ok", "([BIIIJB)Z"⟩ : MethodName)) hown (mvT hZ (hw _ (List.mem_of_getElem? (i := 6) rfl))) (mvT hZ (hw _ (List.mem_of_getElem? (i := 7) rfl))) (mvT hZ (hw _ (List.mem_of_getElem? (i := 8) rfl))) (mvT hZ (hw _ (List.mem_of_getElem? (i := 9) rfl))) (by decide) (backOf (W := 0) (own_mok l Z a0 hw [] b54 (2 : Int32) (Int32.ofNat on) (Int32.ofNat cn) vv vf (own_el on cn vv vf 2) _ T105.heap n0 Z106 A105 (own_at on cn vv vf 2 hon hcn (by decide))) hZ (hw _ (List.mem_of_getElem? (i := 9) rfl)) (hw _ (List.mem_of_getElem? (i := 8) rfl)) (by decide) (by decide)) (g := (mkF m 146 #[.val (.int vseed), .val (.long vv), .second, .val (.int vcs), .val (.int vfs), .val (.int (Int32.ofNat on)), .val (.int (Int32.ofNat cn)), .val (.int vf), .val (.ref b54)] [(.int vf), (.long vv), (.int (Int32.ofNat cn)), (.int (Int32.ofNat on)), (.int (2 : Int32)), (.ref b54)])) rfl (by rw [hml]; rfl) (argsL := [(.ref b54), (.int (2 : Int32)), (.int (Int32.ofNat on)), (.int (Int32.ofNat cn)), (.long vv), (.int vf)]) (rest := []) (lenOf own_pd1 rfl) rfl (by show 2 * 0 + _ ≤ _; exact Nat.le_of_eq rfl) (hb hby at_146) (fun _ _ => ⟨rfl, e110, (by decide : 1 + 0 ≤ _), (by decide : 12 + 0 ≤ _)⟩)
  dsimp only [Pt.U, Pt.locs, Pt.cells, Pt.slots] at X112 l112 y112 z112 st112 hQ112
  subst l112 y112 z112
  obtain ⟨rfl, N112q, e112⟩ := hQ112
  have N112 := Fr.app Nh111 N112q
  obtain ⟨Lh113, Xh113, Nh113⟩ := own_hide X112 N112
  refine OGo.on st112 ?_
  show OGo p e below s _ _ _ (T112.setTop (mkF m 149 #[.val (.int vseed), .val (.long vv), .second, .val (.int vcs), .val (.int vfs), .val (.int (Int32.ofNat on)), .val (.int (Int32.ofNat cn)), .val (.int vf), .val (.ref b54)] [(.int (own_ok (own_el on cn vv vf 2) (2 : Int32) (Int32.ofNat on) (Int32.ofNat cn) vv vf))]))
  refine OGo.on (fun t k => XS.ifNo Xh113.here hx rfl (hb hby at_149) rfl ((if0 _ _).trans (feq (own_n0 (own_okk on cn vv vf 2 hon hcn (by decide)))).1) k) ?_
  show OGo p e below s _ _ _ (T112.setTop (mkF m 152 #[.val (.int vseed), .val (.long vv), .second, .val (.int vcs), .val (.int vfs), .val (.int (Int32.ofNat on)), .val (.int (Int32.ofNat cn)), .val (.int vf), .val (.ref b54)] []))
  refine OGo.on (fun t k => XS.aload Xh113.here hx rfl (hb hby at_152) rfl rfl k) ?_
  show OGo p e below s _ _ _ (T112.setTop (mkF m 154 #[.val (.int vseed), .val (.long vv), .second, .val (.int vcs), .val (.int vfs), .val (.int (Int32.ofNat on)), .val (.int (Int32.ofNat cn)), .val (.int vf), .val (.ref b54)] [(.ref b54)]))
  refine OGo.on (fun t k => XS.iconst Xh113.here hx rfl (hb hby at_154) k) ?_
  show OGo p e below s _ _ _ (T112.setTop (mkF m 155 #[.val (.int vseed), .val (.long vv), .second, .val (.int vcs), .val (.int vfs), .val (.int (Int32.ofNat on)), .val (.int (Int32.ofNat cn)), .val (.int vf), .val (.ref b54)] [(.int (3 : Int32)), (.ref b54)]))
  refine OGo.on (fun t k => XS.iload Xh113.here hx rfl (hb hby at_155) rfl k) ?_
  show OGo p e below s _ _ _ (T112.setTop (mkF m 157 #[.val (.int vseed), .val (.long vv), .second, .val (.int vcs), .val (.int vfs), .val (.int (Int32.ofNat on)), .val (.int (Int32.ofNat cn)), .val (.int vf), .val (.ref b54)] [(.int (Int32.ofNat on)), (.int (3 : Int32)), (.ref b54)]))
  refine OGo.on (fun t k => XS.iload Xh113.here hx rfl (hb hby at_157) rfl k) ?_
  show OGo p e below s _ _ _ (T112.setTop (mkF m 159 #[.val (.int vseed), .val (.long vv), .second, .val (.int vcs), .val (.int vfs), .val (.int (Int32.ofNat on)), .val (.int (Int32.ofNat cn)), .val (.int vf), .val (.ref b54)] [(.int (Int32.ofNat cn)), (.int (Int32.ofNat on)), (.int (3 : Int32)), (.ref b54)]))
  refine OGo.on (fun t k => XS.lloadN Xh113.here hx rfl (hb hby at_159) rfl k) ?_
  show OGo p e below s _ _ _ (T112.setTop (mkF m 160 #[.val (.int vseed), .val (.long vv), .second, .val (.int vcs), .val (.int vfs), .val (.int (Int32.ofNat on)), .val (.int (Int32.ofNat cn)), .val (.int vf), .val (.ref b54)] [(.long vv), (.int (Int32.ofNat cn)), (.int (Int32.ofNat on)), (.int (3 : Int32)), (.ref b54)]))
  refine OGo.on (fun t k => XS.iload Xh113.here hx rfl (hb hby at_160) rfl k) ?_
  show OGo p e below s _ _ _ (T112.setTop (mkF m 162 #[.val (.int vseed), .val (.long vv), .second, .val (.int vcs), .val (.int vfs), .val (.int (Int32.ofNat on)), .val (.int (Int32.ofNat cn)), .val (.int vf), .val (.ref b54)] [(.int vf), (.long vv), (.int (Int32.ofNat cn)), (.int (Int32.ofNat on)), (.int (3 : Int32)), (.ref b54)]))
  obtain ⟨_, _, ⟨T114, L114, k114, n114⟩, -, X114, ⟨Lc114, hQ114, l114, y114, z114⟩, st114⟩ := Jvm.LawKit.callS Xh113 hx (y := (⟨"com/example/libmsgframe/libmsgframe/dsa2/LittleEndianPutLowBytesPinLaw", "ok", "([BIIIJB)Z"⟩ : MethodName)) hown (mvT hZ (hw _ (List.mem_of_getElem? (i := 6) rfl))) (mvT hZ (hw _ (List.mem_of_getElem? (i := 7) rfl))) (mvT hZ (hw _ (List.mem_of_getElem? (i := 8) rfl))) (mvT hZ (hw _ (List.mem_of_getElem? (i := 9) rfl))) (by decide) (backOf (W := 0) (own_mok l Z a0 hw [] b54 (3 : Int32) (Int32.ofNat on) (Int32.ofNat cn) vv vf (own_el on cn vv vf 3) _ T105.heap n0 Z106 A105 (own_at on cn vv vf 3 hon hcn (by decide))) hZ (hw _ (List.mem_of_getElem? (i := 9) rfl)) (hw _ (List.mem_of_getElem? (i := 8) rfl)) (by decide) (by decide)) (g := (mkF m 162 #[.val (.int vseed), .val (.long vv), .second, .val (.int vcs), .val (.int vfs), .val (.int (Int32.ofNat on)), .val (.int (Int32.ofNat cn)), .val (.int vf), .val (.ref b54)] [(.int vf), (.long vv), (.int (Int32.ofNat cn)), (.int (Int32.ofNat on)), (.int (3 : Int32)), (.ref b54)])) rfl (by rw [hml]; rfl) (argsL := [(.ref b54), (.int (3 : Int32)), (.int (Int32.ofNat on)), (.int (Int32.ofNat cn)), (.long vv), (.int vf)]) (rest := []) (lenOf own_pd1 rfl) rfl (by show 2 * 0 + _ ≤ _; exact Nat.le_of_eq rfl) (hb hby at_162) (fun _ _ => ⟨rfl, e112, (by decide : 1 + 0 ≤ _), (by decide : 12 + 0 ≤ _)⟩)
  dsimp only [Pt.U, Pt.locs, Pt.cells, Pt.slots] at X114 l114 y114 z114 st114 hQ114
  subst l114 y114 z114
  obtain ⟨rfl, N114q, e114⟩ := hQ114
  have N114 := Fr.app Nh113 N114q
  obtain ⟨Lh115, Xh115, Nh115⟩ := own_hide X114 N114
  refine OGo.on st114 ?_
  show OGo p e below s _ _ _ (T114.setTop (mkF m 165 #[.val (.int vseed), .val (.long vv), .second, .val (.int vcs), .val (.int vfs), .val (.int (Int32.ofNat on)), .val (.int (Int32.ofNat cn)), .val (.int vf), .val (.ref b54)] [(.int (own_ok (own_el on cn vv vf 3) (3 : Int32) (Int32.ofNat on) (Int32.ofNat cn) vv vf))]))
  refine OGo.on (fun t k => XS.ifNo Xh115.here hx rfl (hb hby at_165) rfl ((if0 _ _).trans (feq (own_n0 (own_okk on cn vv vf 3 hon hcn (by decide)))).1) k) ?_
  show OGo p e below s _ _ _ (T114.setTop (mkF m 168 #[.val (.int vseed), .val (.long vv), .second, .val (.int vcs), .val (.int vfs), .val (.int (Int32.ofNat on)), .val (.int (Int32.ofNat cn)), .val (.int vf), .val (.ref b54)] []))
  refine OGo.on (fun t k => XS.aload Xh115.here hx rfl (hb hby at_168) rfl rfl k) ?_
  show OGo p e below s _ _ _ (T114.setTop (mkF m 170 #[.val (.int vseed), .val (.long vv), .second, .val (.int vcs), .val (.int vfs), .val (.int (Int32.ofNat on)), .val (.int (Int32.ofNat cn)), .val (.int vf), .val (.ref b54)] [(.ref b54)]))
  refine OGo.on (fun t k => XS.iconst Xh115.here hx rfl (hb hby at_170) k) ?_
  show OGo p e below s _ _ _ (T114.setTop (mkF m 171 #[.val (.int vseed), .val (.long vv), .second, .val (.int vcs), .val (.int vfs), .val (.int (Int32.ofNat on)), .val (.int (Int32.ofNat cn)), .val (.int vf), .val (.ref b54)] [(.int (4 : Int32)), (.ref b54)]))
  refine OGo.on (fun t k => XS.iload Xh115.here hx rfl (hb hby at_171) rfl k) ?_
  show OGo p e below s _ _ _ (T114.setTop (mkF m 173 #[.val (.int vseed), .val (.long vv), .second, .val (.int vcs), .val (.int vfs), .val (.int (Int32.ofNat on)), .val (.int (Int32.ofNat cn)), .val (.int vf), .val (.ref b54)] [(.int (Int32.ofNat on)), (.int (4 : Int32)), (.ref b54)]))
  refine OGo.on (fun t k => XS.iload Xh115.here hx rfl (hb hby at_173) rfl k) ?_
  show OGo p e below s _ _ _ (T114.setTop (mkF m 175 #[.val (.int vseed), .val (.long vv), .second, .val (.int vcs), .val (.int vfs), .val (.int (Int32.ofNat on)), .val (.int (Int32.ofNat cn)), .val (.int vf), .val (.ref b54)] [(.int (Int32.ofNat cn)), (.int (Int32.ofNat on)), (.int (4 : Int32)), (.ref b54)]))
  refine OGo.on (fun t k => XS.lloadN Xh115.here hx rfl (hb hby at_175) rfl k) ?_
  show OGo p e below s _ _ _ (T114.setTop (mkF m 176 #[.val (.int vseed), .val (.long vv), .second, .val (.int vcs), .val (.int vfs), .val (.int (Int32.ofNat on)), .val (.int (Int32.ofNat cn)), .val (.int vf), .val (.ref b54)] [(.long vv), (.int (Int32.ofNat cn)), (.int (Int32.ofNat on)), (.int (4 : Int32)), (.ref b54)]))
  refine OGo.on (fun t k => XS.iload Xh115.here hx rfl (hb hby at_176) rfl k) ?_
  show OGo p e below s _ _ _ (T114.setTop (mkF m 178 #[.val (.int vseed), .val (.long vv), .second, .val (.int vcs), .val (.int vfs), .val (.int (Int32.ofNat on)), .val (.int (Int32.ofNat cn)), .val (.int vf), .val (.ref b54)] [(.int vf), (.long vv), (.int (Int32.ofNat cn)), (.int (Int32.ofNat on)), (.int (4 : Int32)), (.ref b54)]))
  obtain ⟨_, _, ⟨T116, L116, k116, n116⟩, -, X116, ⟨Lc116, hQ116, l116, y116, z116⟩, st116⟩ := Jvm.LawKit.callS Xh115 hx (y := (⟨"com/example/libmsgframe/libmsgframe/dsa2/LittleEndianPutLowBytesPinLaw", "ok", "([BIIIJB)Z"⟩ : MethodName)) hown (mvT hZ (hw _ (List.mem_of_getElem? (i := 6) rfl))) (mvT hZ (hw _ (List.mem_of_getElem? (i := 7) rfl))) (mvT hZ (hw _ (List.mem_of_getElem? (i := 8) rfl))) (mvT hZ (hw _ (List.mem_of_getElem? (i := 9) rfl))) (by decide) (backOf (W := 0) (own_mok l Z a0 hw [] b54 (4 : Int32) (Int32.ofNat on) (Int32.ofNat cn) vv vf (own_el on cn vv vf 4) _ T105.heap n0 Z106 A105 (own_at on cn vv vf 4 hon hcn (by decide))) hZ (hw _ (List.mem_of_getElem? (i := 9) rfl)) (hw _ (List.mem_of_getElem? (i := 8) rfl)) (by decide) (by decide)) (g := (mkF m 178 #[.val (.int vseed), .val (.long vv), .second, .val (.int vcs), .val (.int vfs), .val (.int (Int32.ofNat on)), .val (.int (Int32.ofNat cn)), .val (.int vf), .val (.ref b54)] [(.int vf), (.long vv), (.int (Int32.ofNat cn)), (.int (Int32.ofNat on)), (.int (4 : Int32)), (.ref b54)])) rfl (by rw [hml]; rfl) (argsL := [(.ref b54), (.int (4 : Int32)), (.int (Int32.ofNat on)), (.int (Int32.ofNat cn)), (.long vv), (.int vf)]) (rest := []) (lenOf own_pd1 rfl) rfl (by show 2 * 0 + _ ≤ _; exact Nat.le_of_eq rfl) (hb hby at_178) (fun _ _ => ⟨rfl, e114, (by decide : 1 + 0 ≤ _), (by decide : 12 + 0 ≤ _)⟩)
  dsimp only [Pt.U, Pt.locs, Pt.cells, Pt.slots] at X116 l116 y116 z116 st116 hQ116
  subst l116 y116 z116
  obtain ⟨rfl, N116q, e116⟩ := hQ116
  have N116 := Fr.app Nh115 N116q
  obtain ⟨Lh117, Xh117, Nh117⟩ := own_hide X116 N116
  refine OGo.on st116 ?_
  show OGo p e below s _ _ _ (T116.setTop (mkF m 181 #[.val (.int vseed), .val (.long vv), .second, .val (.int vcs), .val (.int vfs), .val (.int (Int32.ofNat on)), .val (.int (Int32.ofNat cn)), .val (.int vf), .val (.ref b54)] [(.int (own_ok (own_el on cn vv vf 4) (4 : Int32) (Int32.ofNat on) (Int32.ofNat cn) vv vf))]))
  refine OGo.on (fun t k => XS.ifNo Xh117.here hx rfl (hb hby at_181) rfl ((if0 _ _).trans (feq (own_n0 (own_okk on cn vv vf 4 hon hcn (by decide)))).1) k) ?_
  show OGo p e below s _ _ _ (T116.setTop (mkF m 184 #[.val (.int vseed), .val (.long vv), .second, .val (.int vcs), .val (.int vfs), .val (.int (Int32.ofNat on)), .val (.int (Int32.ofNat cn)), .val (.int vf), .val (.ref b54)] []))
  refine OGo.on (fun t k => XS.aload Xh117.here hx rfl (hb hby at_184) rfl rfl k) ?_
  show OGo p e below s _ _ _ (T116.setTop (mkF m 186 #[.val (.int vseed), .val (.long vv), .second, .val (.int vcs), .val (.int vfs), .val (.int (Int32.ofNat on)), .val (.int (Int32.ofNat cn)), .val (.int vf), .val (.ref b54)] [(.ref b54)]))
  refine OGo.on (fun t k => XS.iconst Xh117.here hx rfl (hb hby at_186) k) ?_
  show OGo p e below s _ _ _ (T116.setTop (mkF m 187 #[.val (.int vseed), .val (.long vv), .second, .val (.int vcs), .val (.int vfs), .val (.int (Int32.ofNat on)), .val (.int (Int32.ofNat cn)), .val (.int vf), .val (.ref b54)] [(.int (5 : Int32)), (.ref b54)]))
  refine OGo.on (fun t k => XS.iload Xh117.here hx rfl (hb hby at_187) rfl k) ?_
  show OGo p e below s _ _ _ (T116.setTop (mkF m 189 #[.val (.int vseed), .val (.long vv), .second, .val (.int vcs), .val (.int vfs), .val (.int (Int32.ofNat on)), .val (.int (Int32.ofNat cn)), .val (.int vf), .val (.ref b54)] [(.int (Int32.ofNat on)), (.int (5 : Int32)), (.ref b54)]))
  refine OGo.on (fun t k => XS.iload Xh117.here hx rfl (hb hby at_189) rfl k) ?_
  show OGo p e below s _ _ _ (T116.setTop (mkF m 191 #[.val (.int vseed), .val (.long vv), .second, .val (.int vcs), .val (.int vfs), .val (.int (Int32.ofNat on)), .val (.int (Int32.ofNat cn)), .val (.int vf), .val (.ref b54)] [(.int (Int32.ofNat cn)), (.int (Int32.ofNat on)), (.int (5 : Int32)), (.ref b54)]))
  refine OGo.on (fun t k => XS.lloadN Xh117.here hx rfl (hb hby at_191) rfl k) ?_
  show OGo p e below s _ _ _ (T116.setTop (mkF m 192 #[.val (.int vseed), .val (.long vv), .second, .val (.int vcs), .val (.int vfs), .val (.int (Int32.ofNat on)), .val (.int (Int32.ofNat cn)), .val (.int vf), .val (.ref b54)] [(.long vv), (.int (Int32.ofNat cn)), (.int (Int32.ofNat on)), (.int (5 : Int32)), (.ref b54)]))
  refine OGo.on (fun t k => XS.iload Xh117.here hx rfl (hb hby at_192) rfl k) ?_
  show OGo p e below s _ _ _ (T116.setTop (mkF m 194 #[.val (.int vseed), .val (.long vv), .second, .val (.int vcs), .val (.int vfs), .val (.int (Int32.ofNat on)), .val (.int (Int32.ofNat cn)), .val (.int vf), .val (.ref b54)] [(.int vf), (.long vv), (.int (Int32.ofNat cn)), (.int (Int32.ofNat on)), (.int (5 : Int32)), (.ref b54)]))
  obtain ⟨_, _, ⟨T118, L118, k118, n118⟩, -, X118, ⟨Lc118, hQ118, l118, y118, z118⟩, st118⟩ := Jvm.LawKit.callS Xh117 hx (y := (⟨"com/example/libmsgframe/libmsgframe/dsa2/LittleEndianPutLowBytesPinLaw", "ok", "([BIIIJB)Z"⟩ : MethodName)) hown (mvT hZ (hw _ (List.mem_of_getElem? (i := 6) rfl))) (mvT hZ (hw _ (List.mem_of_getElem? (i := 7) rfl))) (mvT hZ (hw _ (List.mem_of_getElem? (i := 8) rfl))) (mvT hZ (hw _ (List.mem_of_getElem? (i := 9) rfl))) (by decide) (backOf (W := 0) (own_mok l Z a0 hw [] b54 (5 : Int32) (Int32.ofNat on) (Int32.ofNat cn) vv vf (own_el on cn vv vf 5) _ T105.heap n0 Z106 A105 (own_at on cn vv vf 5 hon hcn (by decide))) hZ (hw _ (List.mem_of_getElem? (i := 9) rfl)) (hw _ (List.mem_of_getElem? (i := 8) rfl)) (by decide) (by decide)) (g := (mkF m 194 #[.val (.int vseed), .val (.long vv), .second, .val (.int vcs), .val (.int vfs), .val (.int (Int32.ofNat on)), .val (.int (Int32.ofNat cn)), .val (.int vf), .val (.ref b54)] [(.int vf), (.long vv), (.int (Int32.ofNat cn)), (.int (Int32.ofNat on)), (.int (5 : Int32)), (.ref b54)])) rfl (by rw [hml]; rfl) (argsL := [(.ref b54), (.int (5 : Int32)), (.int (Int32.ofNat on)), (.int (Int32.ofNat cn)), (.long vv), (.int vf)]) (rest := []) (lenOf own_pd1 rfl) rfl (by show 2 * 0 + _ ≤ _; exact Nat.le_of_eq rfl) (hb hby at_194) (fun _ _ => ⟨rfl, e116, (by decide : 1 + 0 ≤ _), (by decide : 12 + 0 ≤ _)⟩)
  dsimp only [Pt.U, Pt.locs, Pt.cells, Pt.slots] at X118 l118 y118 z118 st118 hQ118
  subst l118 y118 z118
  obtain ⟨rfl, N118q, e118⟩ := hQ118
  have N118 := Fr.app Nh117 N118q
  obtain ⟨Lh119, Xh119, Nh119⟩ := own_hide X118 N118
  refine OGo.on st118 ?_
  show OGo p e below s _ _ _ (T118.setTop (mkF m 197 #[.val (.int vseed), .val (.long vv), .second, .val (.int vcs), .val (.int vfs), .val (.int (Int32.ofNat on)), .val (.int (Int32.ofNat cn)), .val (.int vf), .val (.ref b54)] [(.int (own_ok (own_el on cn vv vf 5) (5 : Int32) (Int32.ofNat on) (Int32.ofNat cn) vv vf))]))
  refine OGo.on (fun t k => XS.ifNo Xh119.here hx rfl (hb hby at_197) rfl ((if0 _ _).trans (feq (own_n0 (own_okk on cn vv vf 5 hon hcn (by decide)))).1) k) ?_
  show OGo p e below s _ _ _ (T118.setTop (mkF m 200 #[.val (.int vseed), .val (.long vv), .second, .val (.int vcs), .val (.int vfs), .val (.int (Int32.ofNat on)), .val (.int (Int32.ofNat cn)), .val (.int vf), .val (.ref b54)] []))
  refine OGo.on (fun t k => XS.aload Xh119.here hx rfl (hb hby at_200) rfl rfl k) ?_
  show OGo p e below s _ _ _ (T118.setTop (mkF m 202 #[.val (.int vseed), .val (.long vv), .second, .val (.int vcs), .val (.int vfs), .val (.int (Int32.ofNat on)), .val (.int (Int32.ofNat cn)), .val (.int vf), .val (.ref b54)] [(.ref b54)]))
  refine OGo.on (fun t k => XS.bipush Xh119.here hx rfl (hb hby at_202) k) ?_
  show OGo p e below s _ _ _ (T118.setTop (mkF m 204 #[.val (.int vseed), .val (.long vv), .second, .val (.int vcs), .val (.int vfs), .val (.int (Int32.ofNat on)), .val (.int (Int32.ofNat cn)), .val (.int vf), .val (.ref b54)] [(.int (6 : Int32)), (.ref b54)]))
  refine OGo.on (fun t k => XS.iload Xh119.here hx rfl (hb hby at_204) rfl k) ?_
  show OGo p e below s _ _ _ (T118.setTop (mkF m 206 #[.val (.int vseed), .val (.long vv), .second, .val (.int vcs), .val (.int vfs), .val (.int (Int32.ofNat on)), .val (.int (Int32.ofNat cn)), .val (.int vf), .val (.ref b54)] [(.int (Int32.ofNat on)), (.int (6 : Int32)), (.ref b54)]))
  refine OGo.on (fun t k => XS.iload Xh119.here hx rfl (hb hby at_206) rfl k) ?_
  show OGo p e below s _ _ _ (T118.setTop (mkF m 208 #[.val (.int vseed), .val (.long vv), .second, .val (.int vcs), .val (.int vfs), .val (.int (Int32.ofNat on)), .val (.int (Int32.ofNat cn)), .val (.int vf), .val (.ref b54)] [(.int (Int32.ofNat cn)), (.int (Int32.ofNat on)), (.int (6 : Int32)), (.ref b54)]))
  refine OGo.on (fun t k => XS.lloadN Xh119.here hx rfl (hb hby at_208) rfl k) ?_
  show OGo p e below s _ _ _ (T118.setTop (mkF m 209 #[.val (.int vseed), .val (.long vv), .second, .val (.int vcs), .val (.int vfs), .val (.int (Int32.ofNat on)), .val (.int (Int32.ofNat cn)), .val (.int vf), .val (.ref b54)] [(.long vv), (.int (Int32.ofNat cn)), (.int (Int32.ofNat on)), (.int (6 : Int32)), (.ref b54)]))
  refine OGo.on (fun t k => XS.iload Xh119.here hx rfl (hb hby at_209) rfl k) ?_
  show OGo p e below s _ _ _ (T118.setTop (mkF m 211 #[.val (.int vseed), .val (.long vv), .second, .val (.int vcs), .val (.int vfs), .val (.int (Int32.ofNat on)), .val (.int (Int32.ofNat cn)), .val (.int vf), .val (.ref b54)] [(.int vf), (.long vv), (.int (Int32.ofNat cn)), (.int (Int32.ofNat on)), (.int (6 : Int32)), (.ref b54)]))
  obtain ⟨_, _, ⟨T120, L120, k120, n120⟩, -, X120, ⟨Lc120, hQ120, l120, y120, z120⟩, st120⟩ := Jvm.LawKit.callS Xh119 hx (y := (⟨"com/example/libmsgframe/libmsgframe/dsa2/LittleEndianPutLowBytesPinLaw", "ok", "([BIIIJB)Z"⟩ : MethodName)) hown (mvT hZ (hw _ (List.mem_of_getElem? (i := 6) rfl))) (mvT hZ (hw _ (List.mem_of_getElem? (i := 7) rfl))) (mvT hZ (hw _ (List.mem_of_getElem? (i := 8) rfl))) (mvT hZ (hw _ (List.mem_of_getElem? (i := 9) rfl))) (by decide) (backOf (W := 0) (own_mok l Z a0 hw [] b54 (6 : Int32) (Int32.ofNat on) (Int32.ofNat cn) vv vf (own_el on cn vv vf 6) _ T105.heap n0 Z106 A105 (own_at on cn vv vf 6 hon hcn (by decide))) hZ (hw _ (List.mem_of_getElem? (i := 9) rfl)) (hw _ (List.mem_of_getElem? (i := 8) rfl)) (by decide) (by decide)) (g := (mkF m 211 #[.val (.int vseed), .val (.long vv), .second, .val (.int vcs), .val (.int vfs), .val (.int (Int32.ofNat on)), .val (.int (Int32.ofNat cn)), .val (.int vf), .val (.ref b54)] [(.int vf), (.long vv), (.int (Int32.ofNat cn)), (.int (Int32.ofNat on)), (.int (6 : Int32)), (.ref b54)])) rfl (by rw [hml]; rfl) (argsL := [(.ref b54), (.int (6 : Int32)), (.int (Int32.ofNat on)), (.int (Int32.ofNat cn)), (.long vv), (.int vf)]) (rest := []) (lenOf own_pd1 rfl) rfl (by show 2 * 0 + _ ≤ _; exact Nat.le_of_eq rfl) (hb hby at_211) (fun _ _ => ⟨rfl, e118, (by decide : 1 + 0 ≤ _), (by decide : 12 + 0 ≤ _)⟩)
  dsimp only [Pt.U, Pt.locs, Pt.cells, Pt.slots] at X120 l120 y120 z120 st120 hQ120
  subst l120 y120 z120
  obtain ⟨rfl, N120q, e120⟩ := hQ120
  have N120 := Fr.app Nh119 N120q
  obtain ⟨Lh121, Xh121, Nh121⟩ := own_hide X120 N120
  refine OGo.on st120 ?_
  show OGo p e below s _ _ _ (T120.setTop (mkF m 214 #[.val (.int vseed), .val (.long vv), .second, .val (.int vcs), .val (.int vfs), .val (.int (Int32.ofNat on)), .val (.int (Int32.ofNat cn)), .val (.int vf), .val (.ref b54)] [(.int (own_ok (own_el on cn vv vf 6) (6 : Int32) (Int32.ofNat on) (Int32.ofNat cn) vv vf))]))
  refine OGo.on (fun t k => XS.ifNo Xh121.here hx rfl (hb hby at_214) rfl ((if0 _ _).trans (feq (own_n0 (own_okk on cn vv vf 6 hon hcn (by decide)))).1) k) ?_
  show OGo p e below s _ _ _ (T120.setTop (mkF m 217 #[.val (.int vseed), .val (.long vv), .second, .val (.int vcs), .val (.int vfs), .val (.int (Int32.ofNat on)), .val (.int (Int32.ofNat cn)), .val (.int vf), .val (.ref b54)] []))
  refine OGo.on (fun t k => XS.aload Xh121.here hx rfl (hb hby at_217) rfl rfl k) ?_
  show OGo p e below s _ _ _ (T120.setTop (mkF m 219 #[.val (.int vseed), .val (.long vv), .second, .val (.int vcs), .val (.int vfs), .val (.int (Int32.ofNat on)), .val (.int (Int32.ofNat cn)), .val (.int vf), .val (.ref b54)] [(.ref b54)]))
  refine OGo.on (fun t k => XS.bipush Xh121.here hx rfl (hb hby at_219) k) ?_
  show OGo p e below s _ _ _ (T120.setTop (mkF m 221 #[.val (.int vseed), .val (.long vv), .second, .val (.int vcs), .val (.int vfs), .val (.int (Int32.ofNat on)), .val (.int (Int32.ofNat cn)), .val (.int vf), .val (.ref b54)] [(.int (7 : Int32)), (.ref b54)]))
  refine OGo.on (fun t k => XS.iload Xh121.here hx rfl (hb hby at_221) rfl k) ?_
  show OGo p e below s _ _ _ (T120.setTop (mkF m 223 #[.val (.int vseed), .val (.long vv), .second, .val (.int vcs), .val (.int vfs), .val (.int (Int32.ofNat on)), .val (.int (Int32.ofNat cn)), .val (.int vf), .val (.ref b54)] [(.int (Int32.ofNat on)), (.int (7 : Int32)), (.ref b54)]))
  refine OGo.on (fun t k => XS.iload Xh121.here hx rfl (hb hby at_223) rfl k) ?_
  show OGo p e below s _ _ _ (T120.setTop (mkF m 225 #[.val (.int vseed), .val (.long vv), .second, .val (.int vcs), .val (.int vfs), .val (.int (Int32.ofNat on)), .val (.int (Int32.ofNat cn)), .val (.int vf), .val (.ref b54)] [(.int (Int32.ofNat cn)), (.int (Int32.ofNat on)), (.int (7 : Int32)), (.ref b54)]))
  refine OGo.on (fun t k => XS.lloadN Xh121.here hx rfl (hb hby at_225) rfl k) ?_
  show OGo p e below s _ _ _ (T120.setTop (mkF m 226 #[.val (.int vseed), .val (.long vv), .second, .val (.int vcs), .val (.int vfs), .val (.int (Int32.ofNat on)), .val (.int (Int32.ofNat cn)), .val (.int vf), .val (.ref b54)] [(.long vv), (.int (Int32.ofNat cn)), (.int (Int32.ofNat on)), (.int (7 : Int32)), (.ref b54)]))
  refine OGo.on (fun t k => XS.iload Xh121.here hx rfl (hb hby at_226) rfl k) ?_
  show OGo p e below s _ _ _ (T120.setTop (mkF m 228 #[.val (.int vseed), .val (.long vv), .second, .val (.int vcs), .val (.int vfs), .val (.int (Int32.ofNat on)), .val (.int (Int32.ofNat cn)), .val (.int vf), .val (.ref b54)] [(.int vf), (.long vv), (.int (Int32.ofNat cn)), (.int (Int32.ofNat on)), (.int (7 : Int32)), (.ref b54)]))
  obtain ⟨_, _, ⟨T122, L122, k122, n122⟩, -, X122, ⟨Lc122, hQ122, l122, y122, z122⟩, st122⟩ := Jvm.LawKit.callS Xh121 hx (y := (⟨"com/example/libmsgframe/libmsgframe/dsa2/LittleEndianPutLowBytesPinLaw", "ok", "([BIIIJB)Z"⟩ : MethodName)) hown (mvT hZ (hw _ (List.mem_of_getElem? (i := 6) rfl))) (mvT hZ (hw _ (List.mem_of_getElem? (i := 7) rfl))) (mvT hZ (hw _ (List.mem_of_getElem? (i := 8) rfl))) (mvT hZ (hw _ (List.mem_of_getElem? (i := 9) rfl))) (by decide) (backOf (W := 0) (own_mok l Z a0 hw [] b54 (7 : Int32) (Int32.ofNat on) (Int32.ofNat cn) vv vf (own_el on cn vv vf 7) _ T105.heap n0 Z106 A105 (own_at on cn vv vf 7 hon hcn (by decide))) hZ (hw _ (List.mem_of_getElem? (i := 9) rfl)) (hw _ (List.mem_of_getElem? (i := 8) rfl)) (by decide) (by decide)) (g := (mkF m 228 #[.val (.int vseed), .val (.long vv), .second, .val (.int vcs), .val (.int vfs), .val (.int (Int32.ofNat on)), .val (.int (Int32.ofNat cn)), .val (.int vf), .val (.ref b54)] [(.int vf), (.long vv), (.int (Int32.ofNat cn)), (.int (Int32.ofNat on)), (.int (7 : Int32)), (.ref b54)])) rfl (by rw [hml]; rfl) (argsL := [(.ref b54), (.int (7 : Int32)), (.int (Int32.ofNat on)), (.int (Int32.ofNat cn)), (.long vv), (.int vf)]) (rest := []) (lenOf own_pd1 rfl) rfl (by show 2 * 0 + _ ≤ _; exact Nat.le_of_eq rfl) (hb hby at_228) (fun _ _ => ⟨rfl, e120, (by decide : 1 + 0 ≤ _), (by decide : 12 + 0 ≤ _)⟩)
  dsimp only [Pt.U, Pt.locs, Pt.cells, Pt.slots] at X122 l122 y122 z122 st122 hQ122
  subst l122 y122 z122
  obtain ⟨rfl, N122q, e122⟩ := hQ122
  have N122 := Fr.app Nh121 N122q
  obtain ⟨Lh123, Xh123, Nh123⟩ := own_hide X122 N122
  refine OGo.on st122 ?_
  show OGo p e below s _ _ _ (T122.setTop (mkF m 231 #[.val (.int vseed), .val (.long vv), .second, .val (.int vcs), .val (.int vfs), .val (.int (Int32.ofNat on)), .val (.int (Int32.ofNat cn)), .val (.int vf), .val (.ref b54)] [(.int (own_ok (own_el on cn vv vf 7) (7 : Int32) (Int32.ofNat on) (Int32.ofNat cn) vv vf))]))
  refine OGo.on (fun t k => XS.ifNo Xh123.here hx rfl (hb hby at_231) rfl ((if0 _ _).trans (feq (own_n0 (own_okk on cn vv vf 7 hon hcn (by decide)))).1) k) ?_
  show OGo p e below s _ _ _ (T122.setTop (mkF m 234 #[.val (.int vseed), .val (.long vv), .second, .val (.int vcs), .val (.int vfs), .val (.int (Int32.ofNat on)), .val (.int (Int32.ofNat cn)), .val (.int vf), .val (.ref b54)] []))
  refine OGo.on (fun t k => XS.aload Xh123.here hx rfl (hb hby at_234) rfl rfl k) ?_
  show OGo p e below s _ _ _ (T122.setTop (mkF m 236 #[.val (.int vseed), .val (.long vv), .second, .val (.int vcs), .val (.int vfs), .val (.int (Int32.ofNat on)), .val (.int (Int32.ofNat cn)), .val (.int vf), .val (.ref b54)] [(.ref b54)]))
  refine OGo.on (fun t k => XS.bipush Xh123.here hx rfl (hb hby at_236) k) ?_
  show OGo p e below s _ _ _ (T122.setTop (mkF m 238 #[.val (.int vseed), .val (.long vv), .second, .val (.int vcs), .val (.int vfs), .val (.int (Int32.ofNat on)), .val (.int (Int32.ofNat cn)), .val (.int vf), .val (.ref b54)] [(.int (8 : Int32)), (.ref b54)]))
  refine OGo.on (fun t k => XS.iload Xh123.here hx rfl (hb hby at_238) rfl k) ?_
  show OGo p e below s _ _ _ (T122.setTop (mkF m 240 #[.val (.int vseed), .val (.long vv), .second, .val (.int vcs), .val (.int vfs), .val (.int (Int32.ofNat on)), .val (.int (Int32.ofNat cn)), .val (.int vf), .val (.ref b54)] [(.int (Int32.ofNat on)), (.int (8 : Int32)), (.ref b54)]))
  refine OGo.on (fun t k => XS.iload Xh123.here hx rfl (hb hby at_240) rfl k) ?_
  show OGo p e below s _ _ _ (T122.setTop (mkF m 242 #[.val (.int vseed), .val (.long vv), .second, .val (.int vcs), .val (.int vfs), .val (.int (Int32.ofNat on)), .val (.int (Int32.ofNat cn)), .val (.int vf), .val (.ref b54)] [(.int (Int32.ofNat cn)), (.int (Int32.ofNat on)), (.int (8 : Int32)), (.ref b54)]))
  refine OGo.on (fun t k => XS.lloadN Xh123.here hx rfl (hb hby at_242) rfl k) ?_
  show OGo p e below s _ _ _ (T122.setTop (mkF m 243 #[.val (.int vseed), .val (.long vv), .second, .val (.int vcs), .val (.int vfs), .val (.int (Int32.ofNat on)), .val (.int (Int32.ofNat cn)), .val (.int vf), .val (.ref b54)] [(.long vv), (.int (Int32.ofNat cn)), (.int (Int32.ofNat on)), (.int (8 : Int32)), (.ref b54)]))
  refine OGo.on (fun t k => XS.iload Xh123.here hx rfl (hb hby at_243) rfl k) ?_
  show OGo p e below s _ _ _ (T122.setTop (mkF m 245 #[.val (.int vseed), .val (.long vv), .second, .val (.int vcs), .val (.int vfs), .val (.int (Int32.ofNat on)), .val (.int (Int32.ofNat cn)), .val (.int vf), .val (.ref b54)] [(.int vf), (.long vv), (.int (Int32.ofNat cn)), (.int (Int32.ofNat on)), (.int (8 : Int32)), (.ref b54)]))
  obtain ⟨_, _, ⟨T124, L124, k124, n124⟩, -, X124, ⟨Lc124, hQ124, l124, y124, z124⟩, st124⟩ := Jvm.LawKit.callS Xh123 hx (y := (⟨"com/example/libmsgframe/libmsgframe/dsa2/LittleEndianPutLowBytesPinLaw", "ok", "([BIIIJB)Z"⟩ : MethodName)) hown (mvT hZ (hw _ (List.mem_of_getElem? (i := 6) rfl))) (mvT hZ (hw _ (List.mem_of_getElem? (i := 7) rfl))) (mvT hZ (hw _ (List.mem_of_getElem? (i := 8) rfl))) (mvT hZ (hw _ (List.mem_of_getElem? (i := 9) rfl))) (by decide) (backOf (W := 0) (own_mok l Z a0 hw [] b54 (8 : Int32) (Int32.ofNat on) (Int32.ofNat cn) vv vf (own_el on cn vv vf 8) _ T105.heap n0 Z106 A105 (own_at on cn vv vf 8 hon hcn (by decide))) hZ (hw _ (List.mem_of_getElem? (i := 9) rfl)) (hw _ (List.mem_of_getElem? (i := 8) rfl)) (by decide) (by decide)) (g := (mkF m 245 #[.val (.int vseed), .val (.long vv), .second, .val (.int vcs), .val (.int vfs), .val (.int (Int32.ofNat on)), .val (.int (Int32.ofNat cn)), .val (.int vf), .val (.ref b54)] [(.int vf), (.long vv), (.int (Int32.ofNat cn)), (.int (Int32.ofNat on)), (.int (8 : Int32)), (.ref b54)])) rfl (by rw [hml]; rfl) (argsL := [(.ref b54), (.int (8 : Int32)), (.int (Int32.ofNat on)), (.int (Int32.ofNat cn)), (.long vv), (.int vf)]) (rest := []) (lenOf own_pd1 rfl) rfl (by show 2 * 0 + _ ≤ _; exact Nat.le_of_eq rfl) (hb hby at_245) (fun _ _ => ⟨rfl, e122, (by decide : 1 + 0 ≤ _), (by decide : 12 + 0 ≤ _)⟩)
  dsimp only [Pt.U, Pt.locs, Pt.cells, Pt.slots] at X124 l124 y124 z124 st124 hQ124
  subst l124 y124 z124
  obtain ⟨rfl, N124q, e124⟩ := hQ124
  have N124 := Fr.app Nh123 N124q
  obtain ⟨Lh125, Xh125, Nh125⟩ := own_hide X124 N124
  refine OGo.on st124 ?_
  show OGo p e below s _ _ _ (T124.setTop (mkF m 248 #[.val (.int vseed), .val (.long vv), .second, .val (.int vcs), .val (.int vfs), .val (.int (Int32.ofNat on)), .val (.int (Int32.ofNat cn)), .val (.int vf), .val (.ref b54)] [(.int (own_ok (own_el on cn vv vf 8) (8 : Int32) (Int32.ofNat on) (Int32.ofNat cn) vv vf))]))
  refine OGo.on (fun t k => XS.ifNo Xh125.here hx rfl (hb hby at_248) rfl ((if0 _ _).trans (feq (own_n0 (own_okk on cn vv vf 8 hon hcn (by decide)))).1) k) ?_
  show OGo p e below s _ _ _ (T124.setTop (mkF m 251 #[.val (.int vseed), .val (.long vv), .second, .val (.int vcs), .val (.int vfs), .val (.int (Int32.ofNat on)), .val (.int (Int32.ofNat cn)), .val (.int vf), .val (.ref b54)] []))
  refine OGo.on (fun t k => XS.aload Xh125.here hx rfl (hb hby at_251) rfl rfl k) ?_
  show OGo p e below s _ _ _ (T124.setTop (mkF m 253 #[.val (.int vseed), .val (.long vv), .second, .val (.int vcs), .val (.int vfs), .val (.int (Int32.ofNat on)), .val (.int (Int32.ofNat cn)), .val (.int vf), .val (.ref b54)] [(.ref b54)]))
  refine OGo.on (fun t k => XS.bipush Xh125.here hx rfl (hb hby at_253) k) ?_
  show OGo p e below s _ _ _ (T124.setTop (mkF m 255 #[.val (.int vseed), .val (.long vv), .second, .val (.int vcs), .val (.int vfs), .val (.int (Int32.ofNat on)), .val (.int (Int32.ofNat cn)), .val (.int vf), .val (.ref b54)] [(.int (9 : Int32)), (.ref b54)]))
  refine OGo.on (fun t k => XS.iload Xh125.here hx rfl (hb hby at_255) rfl k) ?_
  show OGo p e below s _ _ _ (T124.setTop (mkF m 257 #[.val (.int vseed), .val (.long vv), .second, .val (.int vcs), .val (.int vfs), .val (.int (Int32.ofNat on)), .val (.int (Int32.ofNat cn)), .val (.int vf), .val (.ref b54)] [(.int (Int32.ofNat on)), (.int (9 : Int32)), (.ref b54)]))
  refine OGo.on (fun t k => XS.iload Xh125.here hx rfl (hb hby at_257) rfl k) ?_
  show OGo p e below s _ _ _ (T124.setTop (mkF m 259 #[.val (.int vseed), .val (.long vv), .second, .val (.int vcs), .val (.int vfs), .val (.int (Int32.ofNat on)), .val (.int (Int32.ofNat cn)), .val (.int vf), .val (.ref b54)] [(.int (Int32.ofNat cn)), (.int (Int32.ofNat on)), (.int (9 : Int32)), (.ref b54)]))
  refine OGo.on (fun t k => XS.lloadN Xh125.here hx rfl (hb hby at_259) rfl k) ?_
  show OGo p e below s _ _ _ (T124.setTop (mkF m 260 #[.val (.int vseed), .val (.long vv), .second, .val (.int vcs), .val (.int vfs), .val (.int (Int32.ofNat on)), .val (.int (Int32.ofNat cn)), .val (.int vf), .val (.ref b54)] [(.long vv), (.int (Int32.ofNat cn)), (.int (Int32.ofNat on)), (.int (9 : Int32)), (.ref b54)]))
  refine OGo.on (fun t k => XS.iload Xh125.here hx rfl (hb hby at_260) rfl k) ?_
  show OGo p e below s _ _ _ (T124.setTop (mkF m 262 #[.val (.int vseed), .val (.long vv), .second, .val (.int vcs), .val (.int vfs), .val (.int (Int32.ofNat on)), .val (.int (Int32.ofNat cn)), .val (.int vf), .val (.ref b54)] [(.int vf), (.long vv), (.int (Int32.ofNat cn)), (.int (Int32.ofNat on)), (.int (9 : Int32)), (.ref b54)]))
  obtain ⟨_, _, ⟨T126, L126, k126, n126⟩, -, X126, ⟨Lc126, hQ126, l126, y126, z126⟩, st126⟩ := Jvm.LawKit.callS Xh125 hx (y := (⟨"com/example/libmsgframe/libmsgframe/dsa2/LittleEndianPutLowBytesPinLaw", "ok", "([BIIIJB)Z"⟩ : MethodName)) hown (mvT hZ (hw _ (List.mem_of_getElem? (i := 6) rfl))) (mvT hZ (hw _ (List.mem_of_getElem? (i := 7) rfl))) (mvT hZ (hw _ (List.mem_of_getElem? (i := 8) rfl))) (mvT hZ (hw _ (List.mem_of_getElem? (i := 9) rfl))) (by decide) (backOf (W := 0) (own_mok l Z a0 hw [] b54 (9 : Int32) (Int32.ofNat on) (Int32.ofNat cn) vv vf (own_el on cn vv vf 9) _ T105.heap n0 Z106 A105 (own_at on cn vv vf 9 hon hcn (by decide))) hZ (hw _ (List.mem_of_getElem? (i := 9) rfl)) (hw _ (List.mem_of_getElem? (i := 8) rfl)) (by decide) (by decide)) (g := (mkF m 262 #[.val (.int vseed), .val (.long vv), .second, .val (.int vcs), .val (.int vfs), .val (.int (Int32.ofNat on)), .val (.int (Int32.ofNat cn)), .val (.int vf), .val (.ref b54)] [(.int vf), (.long vv), (.int (Int32.ofNat cn)), (.int (Int32.ofNat on)), (.int (9 : Int32)), (.ref b54)])) rfl (by rw [hml]; rfl) (argsL := [(.ref b54), (.int (9 : Int32)), (.int (Int32.ofNat on)), (.int (Int32.ofNat cn)), (.long vv), (.int vf)]) (rest := []) (lenOf own_pd1 rfl) rfl (by show 2 * 0 + _ ≤ _; exact Nat.le_of_eq rfl) (hb hby at_262) (fun _ _ => ⟨rfl, e124, (by decide : 1 + 0 ≤ _), (by decide : 12 + 0 ≤ _)⟩)
  dsimp only [Pt.U, Pt.locs, Pt.cells, Pt.slots] at X126 l126 y126 z126 st126 hQ126
  subst l126 y126 z126
  obtain ⟨rfl, N126q, e126⟩ := hQ126
  have N126 := Fr.app Nh125 N126q
  obtain ⟨Lh127, Xh127, Nh127⟩ := own_hide X126 N126
  refine OGo.on st126 ?_
  show OGo p e below s _ _ _ (T126.setTop (mkF m 265 #[.val (.int vseed), .val (.long vv), .second, .val (.int vcs), .val (.int vfs), .val (.int (Int32.ofNat on)), .val (.int (Int32.ofNat cn)), .val (.int vf), .val (.ref b54)] [(.int (own_ok (own_el on cn vv vf 9) (9 : Int32) (Int32.ofNat on) (Int32.ofNat cn) vv vf))]))
  refine OGo.on (fun t k => XS.ifNo Xh127.here hx rfl (hb hby at_265) rfl ((if0 _ _).trans (feq (own_n0 (own_okk on cn vv vf 9 hon hcn (by decide)))).1) k) ?_
  show OGo p e below s _ _ _ (T126.setTop (mkF m 268 #[.val (.int vseed), .val (.long vv), .second, .val (.int vcs), .val (.int vfs), .val (.int (Int32.ofNat on)), .val (.int (Int32.ofNat cn)), .val (.int vf), .val (.ref b54)] []))
  refine OGo.on (fun t k => XS.aload Xh127.here hx rfl (hb hby at_268) rfl rfl k) ?_
  show OGo p e below s _ _ _ (T126.setTop (mkF m 270 #[.val (.int vseed), .val (.long vv), .second, .val (.int vcs), .val (.int vfs), .val (.int (Int32.ofNat on)), .val (.int (Int32.ofNat cn)), .val (.int vf), .val (.ref b54)] [(.ref b54)]))
  refine OGo.on (fun t k => XS.bipush Xh127.here hx rfl (hb hby at_270) k) ?_
  show OGo p e below s _ _ _ (T126.setTop (mkF m 272 #[.val (.int vseed), .val (.long vv), .second, .val (.int vcs), .val (.int vfs), .val (.int (Int32.ofNat on)), .val (.int (Int32.ofNat cn)), .val (.int vf), .val (.ref b54)] [(.int (10 : Int32)), (.ref b54)]))
  refine OGo.on (fun t k => XS.iload Xh127.here hx rfl (hb hby at_272) rfl k) ?_
  show OGo p e below s _ _ _ (T126.setTop (mkF m 274 #[.val (.int vseed), .val (.long vv), .second, .val (.int vcs), .val (.int vfs), .val (.int (Int32.ofNat on)), .val (.int (Int32.ofNat cn)), .val (.int vf), .val (.ref b54)] [(.int (Int32.ofNat on)), (.int (10 : Int32)), (.ref b54)]))
  refine OGo.on (fun t k => XS.iload Xh127.here hx rfl (hb hby at_274) rfl k) ?_
  show OGo p e below s _ _ _ (T126.setTop (mkF m 276 #[.val (.int vseed), .val (.long vv), .second, .val (.int vcs), .val (.int vfs), .val (.int (Int32.ofNat on)), .val (.int (Int32.ofNat cn)), .val (.int vf), .val (.ref b54)] [(.int (Int32.ofNat cn)), (.int (Int32.ofNat on)), (.int (10 : Int32)), (.ref b54)]))
  refine OGo.on (fun t k => XS.lloadN Xh127.here hx rfl (hb hby at_276) rfl k) ?_
  show OGo p e below s _ _ _ (T126.setTop (mkF m 277 #[.val (.int vseed), .val (.long vv), .second, .val (.int vcs), .val (.int vfs), .val (.int (Int32.ofNat on)), .val (.int (Int32.ofNat cn)), .val (.int vf), .val (.ref b54)] [(.long vv), (.int (Int32.ofNat cn)), (.int (Int32.ofNat on)), (.int (10 : Int32)), (.ref b54)]))
  refine OGo.on (fun t k => XS.iload Xh127.here hx rfl (hb hby at_277) rfl k) ?_
  show OGo p e below s _ _ _ (T126.setTop (mkF m 279 #[.val (.int vseed), .val (.long vv), .second, .val (.int vcs), .val (.int vfs), .val (.int (Int32.ofNat on)), .val (.int (Int32.ofNat cn)), .val (.int vf), .val (.ref b54)] [(.int vf), (.long vv), (.int (Int32.ofNat cn)), (.int (Int32.ofNat on)), (.int (10 : Int32)), (.ref b54)]))
  obtain ⟨_, _, ⟨T128, L128, k128, n128⟩, -, X128, ⟨Lc128, hQ128, l128, y128, z128⟩, st128⟩ := Jvm.LawKit.callS Xh127 hx (y := (⟨"com/example/libmsgframe/libmsgframe/dsa2/LittleEndianPutLowBytesPinLaw", "ok", "([BIIIJB)Z"⟩ : MethodName)) hown (mvT hZ (hw _ (List.mem_of_getElem? (i := 6) rfl))) (mvT hZ (hw _ (List.mem_of_getElem? (i := 7) rfl))) (mvT hZ (hw _ (List.mem_of_getElem? (i := 8) rfl))) (mvT hZ (hw _ (List.mem_of_getElem? (i := 9) rfl))) (by decide) (backOf (W := 0) (own_mok l Z a0 hw [] b54 (10 : Int32) (Int32.ofNat on) (Int32.ofNat cn) vv vf (own_el on cn vv vf 10) _ T105.heap n0 Z106 A105 (own_at on cn vv vf 10 hon hcn (by decide))) hZ (hw _ (List.mem_of_getElem? (i := 9) rfl)) (hw _ (List.mem_of_getElem? (i := 8) rfl)) (by decide) (by decide)) (g := (mkF m 279 #[.val (.int vseed), .val (.long vv), .second, .val (.int vcs), .val (.int vfs), .val (.int (Int32.ofNat on)), .val (.int (Int32.ofNat cn)), .val (.int vf), .val (.ref b54)] [(.int vf), (.long vv), (.int (Int32.ofNat cn)), (.int (Int32.ofNat on)), (.int (10 : Int32)), (.ref b54)])) rfl (by rw [hml]; rfl) (argsL := [(.ref b54), (.int (10 : Int32)), (.int (Int32.ofNat on)), (.int (Int32.ofNat cn)), (.long vv), (.int vf)]) (rest := []) (lenOf own_pd1 rfl) rfl (by show 2 * 0 + _ ≤ _; exact Nat.le_of_eq rfl) (hb hby at_279) (fun _ _ => ⟨rfl, e126, (by decide : 1 + 0 ≤ _), (by decide : 12 + 0 ≤ _)⟩)
  dsimp only [Pt.U, Pt.locs, Pt.cells, Pt.slots] at X128 l128 y128 z128 st128 hQ128
  subst l128 y128 z128
  obtain ⟨rfl, N128q, e128⟩ := hQ128
  have N128 := Fr.app Nh127 N128q
  obtain ⟨Lh129, Xh129, Nh129⟩ := own_hide X128 N128
  refine OGo.on st128 ?_
  show OGo p e below s _ _ _ (T128.setTop (mkF m 282 #[.val (.int vseed), .val (.long vv), .second, .val (.int vcs), .val (.int vfs), .val (.int (Int32.ofNat on)), .val (.int (Int32.ofNat cn)), .val (.int vf), .val (.ref b54)] [(.int (own_ok (own_el on cn vv vf 10) (10 : Int32) (Int32.ofNat on) (Int32.ofNat cn) vv vf))]))
  refine OGo.on (fun t k => XS.ifNo Xh129.here hx rfl (hb hby at_282) rfl ((if0 _ _).trans (feq (own_n0 (own_okk on cn vv vf 10 hon hcn (by decide)))).1) k) ?_
  show OGo p e below s _ _ _ (T128.setTop (mkF m 285 #[.val (.int vseed), .val (.long vv), .second, .val (.int vcs), .val (.int vfs), .val (.int (Int32.ofNat on)), .val (.int (Int32.ofNat cn)), .val (.int vf), .val (.ref b54)] []))
  refine OGo.on (fun t k => XS.aload Xh129.here hx rfl (hb hby at_285) rfl rfl k) ?_
  show OGo p e below s _ _ _ (T128.setTop (mkF m 287 #[.val (.int vseed), .val (.long vv), .second, .val (.int vcs), .val (.int vfs), .val (.int (Int32.ofNat on)), .val (.int (Int32.ofNat cn)), .val (.int vf), .val (.ref b54)] [(.ref b54)]))
  refine OGo.on (fun t k => XS.bipush Xh129.here hx rfl (hb hby at_287) k) ?_
  show OGo p e below s _ _ _ (T128.setTop (mkF m 289 #[.val (.int vseed), .val (.long vv), .second, .val (.int vcs), .val (.int vfs), .val (.int (Int32.ofNat on)), .val (.int (Int32.ofNat cn)), .val (.int vf), .val (.ref b54)] [(.int (11 : Int32)), (.ref b54)]))
  refine OGo.on (fun t k => XS.iload Xh129.here hx rfl (hb hby at_289) rfl k) ?_
  show OGo p e below s _ _ _ (T128.setTop (mkF m 291 #[.val (.int vseed), .val (.long vv), .second, .val (.int vcs), .val (.int vfs), .val (.int (Int32.ofNat on)), .val (.int (Int32.ofNat cn)), .val (.int vf), .val (.ref b54)] [(.int (Int32.ofNat on)), (.int (11 : Int32)), (.ref b54)]))
  refine OGo.on (fun t k => XS.iload Xh129.here hx rfl (hb hby at_291) rfl k) ?_
  show OGo p e below s _ _ _ (T128.setTop (mkF m 293 #[.val (.int vseed), .val (.long vv), .second, .val (.int vcs), .val (.int vfs), .val (.int (Int32.ofNat on)), .val (.int (Int32.ofNat cn)), .val (.int vf), .val (.ref b54)] [(.int (Int32.ofNat cn)), (.int (Int32.ofNat on)), (.int (11 : Int32)), (.ref b54)]))
  refine OGo.on (fun t k => XS.lloadN Xh129.here hx rfl (hb hby at_293) rfl k) ?_
  show OGo p e below s _ _ _ (T128.setTop (mkF m 294 #[.val (.int vseed), .val (.long vv), .second, .val (.int vcs), .val (.int vfs), .val (.int (Int32.ofNat on)), .val (.int (Int32.ofNat cn)), .val (.int vf), .val (.ref b54)] [(.long vv), (.int (Int32.ofNat cn)), (.int (Int32.ofNat on)), (.int (11 : Int32)), (.ref b54)]))
  refine OGo.on (fun t k => XS.iload Xh129.here hx rfl (hb hby at_294) rfl k) ?_
  show OGo p e below s _ _ _ (T128.setTop (mkF m 296 #[.val (.int vseed), .val (.long vv), .second, .val (.int vcs), .val (.int vfs), .val (.int (Int32.ofNat on)), .val (.int (Int32.ofNat cn)), .val (.int vf), .val (.ref b54)] [(.int vf), (.long vv), (.int (Int32.ofNat cn)), (.int (Int32.ofNat on)), (.int (11 : Int32)), (.ref b54)]))
  obtain ⟨_, _, ⟨T130, L130, k130, n130⟩, -, X130, ⟨Lc130, hQ130, l130, y130, z130⟩, st130⟩ := Jvm.LawKit.callS Xh129 hx (y := (⟨"com/example/libmsgframe/libmsgframe/dsa2/LittleEndianPutLowBytesPinLaw", "ok", "([BIIIJB)Z"⟩ : MethodName)) hown (mvT hZ (hw _ (List.mem_of_getElem? (i := 6) rfl))) (mvT hZ (hw _ (List.mem_of_getElem? (i := 7) rfl))) (mvT hZ (hw _ (List.mem_of_getElem? (i := 8) rfl))) (mvT hZ (hw _ (List.mem_of_getElem? (i := 9) rfl))) (by decide) (backOf (W := 0) (own_mok l Z a0 hw [] b54 (11 : Int32) (Int32.ofNat on) (Int32.ofNat cn) vv vf (own_el on cn vv vf 11) _ T105.heap n0 Z106 A105 (own_at on cn vv vf 11 hon hcn (by decide))) hZ (hw _ (List.mem_of_getElem? (i := 9) rfl)) (hw _ (List.mem_of_getElem? (i := 8) rfl)) (by decide) (by decide)) (g := (mkF m 296 #[.val (.int vseed), .val (.long vv), .second, .val (.int vcs), .val (.int vfs), .val (.int (Int32.ofNat on)), .val (.int (Int32.ofNat cn)), .val (.int vf), .val (.ref b54)] [(.int vf), (.long vv), (.int (Int32.ofNat cn)), (.int (Int32.ofNat on)), (.int (11 : Int32)), (.ref b54)])) rfl (by rw [hml]; rfl) (argsL := [(.ref b54), (.int (11 : Int32)), (.int (Int32.ofNat on)), (.int (Int32.ofNat cn)), (.long vv), (.int vf)]) (rest := []) (lenOf own_pd1 rfl) rfl (by show 2 * 0 + _ ≤ _; exact Nat.le_of_eq rfl) (hb hby at_296) (fun _ _ => ⟨rfl, e128, (by decide : 1 + 0 ≤ _), (by decide : 12 + 0 ≤ _)⟩)
  dsimp only [Pt.U, Pt.locs, Pt.cells, Pt.slots] at X130 l130 y130 z130 st130 hQ130
  subst l130 y130 z130
  obtain ⟨rfl, N130q, e130⟩ := hQ130
  have N130 := Fr.app Nh129 N130q
  obtain ⟨Lh131, Xh131, Nh131⟩ := own_hide X130 N130
  refine OGo.on st130 ?_
  show OGo p e below s _ _ _ (T130.setTop (mkF m 299 #[.val (.int vseed), .val (.long vv), .second, .val (.int vcs), .val (.int vfs), .val (.int (Int32.ofNat on)), .val (.int (Int32.ofNat cn)), .val (.int vf), .val (.ref b54)] [(.int (own_ok (own_el on cn vv vf 11) (11 : Int32) (Int32.ofNat on) (Int32.ofNat cn) vv vf))]))
  refine OGo.on (fun t k => XS.ifNo Xh131.here hx rfl (hb hby at_299) rfl ((if0 _ _).trans (feq (own_n0 (own_okk on cn vv vf 11 hon hcn (by decide)))).1) k) ?_
  show OGo p e below s _ _ _ (T130.setTop (mkF m 302 #[.val (.int vseed), .val (.long vv), .second, .val (.int vcs), .val (.int vfs), .val (.int (Int32.ofNat on)), .val (.int (Int32.ofNat cn)), .val (.int vf), .val (.ref b54)] []))
  refine OGo.on (fun t k => XS.iconst Xh131.here hx rfl (hb hby at_302) k) ?_
  show OGo p e below s _ _ _ (T130.setTop (mkF m 303 #[.val (.int vseed), .val (.long vv), .second, .val (.int vcs), .val (.int vfs), .val (.int (Int32.ofNat on)), .val (.int (Int32.ofNat cn)), .val (.int vf), .val (.ref b54)] [(.int (1 : Int32))]))
  refine OGo.on (fun t k => XS.goto Xh131.here hx rfl (pc0 := 303) (pc' := 307) rfl (hb hby at_303) (by decide) (by decide) k) ?_
  show OGo p e below s _ _ _ (T130.setTop (mkF m 307 #[.val (.int vseed), .val (.long vv), .second, .val (.int vcs), .val (.int vfs), .val (.int (Int32.ofNat on)), .val (.int (Int32.ofNat cn)), .val (.int vf), .val (.ref b54)] [(.int (1 : Int32))]))
  exact OGo.retN Xh131 hx (t := .boolean) hret hlk (by simp) (hb hby at_307) ⟨rfl, Nh131⟩ (by decide) (by decide)
set_option maxRecDepth 65536 in
set_option maxHeartbeats 40000000 in
theorem comes_1 {Post : Tables → Env → Array Value → State → Outcome → State → Prop} (hpost : ∀ tb e args s v u, (limb_1_1.after args s (.returned v) u = true ∧ limb_1_2.after args s (.returned v) u = true ∧ True) → FrameEnd s (.returned v) u (Jvm.fieldLocs frame_1_writes args s ++ Jvm.arrayLocs frame_1_arrays args s ++ Jvm.staticLocs frame_1_statics s) 16 128 → Post tb e args s (.returned v) u) :
    ArmFor flags0 classFile x code maxLocals ret World_1 tables_1 room_1 Calls_1 rest_1 Pre_1 Post := by
  intro l hfl _ _ p e ha hc hk s m args below hf hA hF happ hP
  obtain ⟨hcalls, hrest, hpre⟩ := hP
  obtain ⟨-, -, -, hnamed, -, -, -, hat⟩ := (Spec.applies_iff hf).mp happ
  obtain ⟨hg, hn⟩ := and_e (Cond.before_iff.mp (show (Jvm.Cond.and given_1 narrow_1).before args s = true from hpre))
  obtain ⟨gg132, gg133⟩ := and_e hg
  obtain ⟨gg134, gg135⟩ := and_e gg133
  obtain ⟨gg136, gg137⟩ := and_e gg135
  obtain ⟨gg138, gg139⟩ := and_e gg137
  obtain ⟨w0, w1, w2, w3, rfl⟩ : ∃ w0 w1 w2 w3 : Value, args = #[w0, w1, w2, w3] := by
    have hs : args.size = 4 := by simpa [Cond.value, given_1] using gg132
    obtain ⟨L⟩ := args
    match L, hs with
    | [w0, w1, w2, w3], _ => exact ⟨w0, w1, w2, w3, rfl⟩
  have hw := fun d (hd : d ∈ tables_1) => atoms_spec (ws := Jvm.Cond.code x code maxLocals ret :: tables_1) hat d (List.mem_cons_of_mem _ hd)
  obtain ⟨i0, ei0⟩ := is_v gg134
  obtain rfl : w0 = (.int i0) := Option.some.inj ei0
  obtain ⟨i1, ei1⟩ := isL_v gg136
  obtain rfl : w1 = (.long i1) := Option.some.inj ei1
  obtain ⟨i2, ei2⟩ := is_v gg138
  obtain rfl : w2 = (.int i2) := Option.some.inj ei2
  obtain ⟨i3, ei3⟩ := is_v gg139
  obtain rfl : w3 = (.int i3) := Option.some.inj ei3
  obtain ⟨n, o, h1, h2, h3, _, L, rfl, ⟨rfl, N⟩, hq⟩ := own_law l s _ hw tables_1 i0 i1 i2 i3 s.heap s.heap.size (Nat.le_refl _)  p e ha hc hk s m _ below hf ((Spec.applies_iff_loose hf).mp happ).1 ⟨rfl, State.Warmed39.refl s, rfl⟩ trivial
  refine ⟨n, _, h1, h2, h3, hpost _ _ _ _ _ _ ⟨Cond.after_iff.mpr rfl, Cond.after_iff.mpr (eq_i res_at (Term.int_eval (1)) rfl), trivial⟩ ⟨hq.1, hq.2.1, (hq.2.2.sift fun y hy => Or.inr (N y hy)).mono (by decide) (by decide)⟩⟩
theorem main_1_1 : Claimed_1_1 := comes_1 fun _ _ _ _ _ _ h hF => ⟨h.1, hF⟩
theorem main_1_2 : Claimed_1_2 := comes_1 fun _ _ _ _ _ _ h hF => ⟨h.2.1, hF⟩
end Jvm.Pilot.@@N@@
namespace Jvm.Pilot.@@N@@
open Jvm Jvm.ClassFile Sem Op Lib Jvm.Free Jvm.Stand Jvm.Pilot.@@N@@.Jvm.D
/-! MADE BY PROGRAM (witnessworld.py) out of the Statement's table words and the real class files: 9 classes; the members and pool entries that the words name. The judged class is class 1, her method 1. -/
namespace start1
open Jvm.ClassFile
def u (s : String) : CpInfo := .utf8 (stringToUtf16 s)
/-- a pool by its gaps: so many unusable entries, then the entry; so many at the end -/
def gap : Nat → List CpInfo → List CpInfo
  | 0, r => r
  | n + 1, r => .unusable :: gap n r
def poolList (es : List (Nat × CpInfo)) (last : Nat) : List CpInfo := es.foldr (fun e r => gap e.1 (e.2 :: r)) (gap last [])
def pool (es : List (Nat × CpInfo)) (last : Nat) : Array CpInfo := ⟨poolList es last⟩
def fileOf (pool : Array CpInfo) (this : Nat) (attrs : Array Attribute := #[]) (ms : Array MethodInfo := #[]) (fl : Nat := 33) (sup : Nat := 0) (ifs : Array Nat := #[]) (fds : Array FieldInfo := #[]) : ClassFile where
  minorVersion := 0
  majorVersion := 65
  constantPool := pool
  accessFlags := fl
  thisClass := this
  superClass := sup
  interfaces := ifs
  fields := fds
  methods := ms
  attributes := attrs
def plain (name : String) (sup : Option ClassId) : Class where
  name := name
  kind := .ordinary
  loader := none
  accessFlags := 33
  super := sup
  interfaces := #[]
  cf := none
  fields := #[]
  methods := #[]
  instanceTypes := #[]
  staticTypes := #[]
  resolved := #[]
  callSites := []
  init := .initialized
  statics := none
  mirror := none

def pool0 : Array CpInfo := pool [(5, u "<init>"), (0, u "()V"), (1, .class_ 10), (1, u "java/lang/Object")] 113

def k0m0 : Method := { name := "<init>", desc := "()V", sig := { parameters := [], returnType := none }, accessFlags := 1, code := none }
/-- java/lang/Object -/
def k0 : Class := { plain "java/lang/Object" none with
  accessFlags := 33
  interfaces := #[]
  cf := some (fileOf pool0 8 #[] #[{ accessFlags := 1, nameIndex := 5, descriptorIndex := 6, attributes := #[] }] 33 0 #[] #[])
  fields := #[]
  methods := #[k0m0]
  instanceTypes := #[]
  staticTypes := #[]
  resolved := Array.replicate 124 none
  statics := none }

def pool1 : Array CpInfo := pool [(2, .class_ 4), (1, u "java/lang/Object"), (0, u "<init>"), (0, u "()V"), (0, .integer 2147483647), (0, .methodref 9 10), (0, .class_ 11), (0, .nameAndType 12 13), (0, u "com/example/libmsgframe/libmsgframe/dsa2/LittleEndian"), (0, u "putLowBytes"), (0, u "([BIJI)V"), (0, .methodref 15 16), (0, .class_ 17), (0, .nameAndType 18 19), (0, u "com/example/libmsgframe/libmsgframe/dsa2/LittleEndianPutLowBytesPinLaw"), (0, u "ok"), (0, u "([BIIIJB)Z"), (0, .long 255), (3, u "law"), (0, u "(IJII)Z")] 5

def k1m0 : Method := { name := "<init>", desc := "()V", sig := { parameters := [], returnType := none }, accessFlags := 1, code := none }
def k1c1 : Code := { maxStack := 7, maxLocals := 9, code := code, exceptionTable := #[], attributes := #[] }
def k1m1 : Method := { name := "law", desc := "(IJII)Z", sig := { parameters := [.int, .long, .int, .int], returnType := some .boolean }, accessFlags := 9, code := some k1c1 }
def k1c2 : Code := { maxStack := 4, maxLocals := 9, code := method_3_code, exceptionTable := #[], attributes := #[] }
def k1m2 : Method := { name := "ok", desc := "([BIIIJB)Z", sig := { parameters := [(.array .byte), .int, .int, .int, .long, .byte], returnType := some .boolean }, accessFlags := 10, code := some k1c2 }
/-- com/example/libmsgframe/libmsgframe/dsa2/LittleEndianPutLowBytesPinLaw -/
def k1 : Class := { plain "com/example/libmsgframe/libmsgframe/dsa2/LittleEndianPutLowBytesPinLaw" (some 0) with
  accessFlags := 49
  interfaces := #[]
  cf := some (fileOf pool1 15 #[] #[{ accessFlags := 1, nameIndex := 5, descriptorIndex := 6, attributes := #[] }, { accessFlags := 9, nameIndex := 24, descriptorIndex := 25, attributes := #[] }, { accessFlags := 10, nameIndex := 18, descriptorIndex := 19, attributes := #[] }] 49 2 #[] #[])
  fields := #[]
  methods := #[k1m0, k1m1, k1m2]
  instanceTypes := #[]
  staticTypes := #[]
  resolved := Array.replicate 31 none
  statics := none }

def pool2 : Array CpInfo := pool [(2, .class_ 4), (1, u "java/lang/Object"), (0, u "<init>"), (0, u "()V"), (1, .class_ 10), (1, u "com/example/libmsgframe/libmsgframe/dsa2/LittleEndian"), (0, u "SHORTS"), (0, u "Ljava/lang/invoke/VarHandle;"), (14, u "INTS"), (12, u "LONGS"), (30, u "putLowBytes"), (0, u "([BIJI)V")] 4

def k2m0 : Method := { name := "<init>", desc := "()V", sig := { parameters := [], returnType := none }, accessFlags := 2, code := none }
def k2c1 : Code := { maxStack := 6, maxLocals := 6, code := prog_53_method_7_code, exceptionTable := #[], attributes := #[] }
def k2m1 : Method := { name := "putLowBytes", desc := "([BIJI)V", sig := { parameters := [(.array .byte), .int, .long, .int], returnType := none }, accessFlags := 8, code := some k2c1 }
/-- com/example/libmsgframe/libmsgframe/dsa2/LittleEndian -/
def k2 : Class := { plain "com/example/libmsgframe/libmsgframe/dsa2/LittleEndian" (some 0) with
  accessFlags := 48
  interfaces := #[]
  cf := some (fileOf pool2 8 #[] #[{ accessFlags := 2, nameIndex := 5, descriptorIndex := 6, attributes := #[] }, { accessFlags := 8, nameIndex := 71, descriptorIndex := 72, attributes := #[] }] 48 2 #[] #[{ accessFlags := 26, nameIndex := 11, descriptorIndex := 12, attributes := #[] }, { accessFlags := 26, nameIndex := 27, descriptorIndex := 12, attributes := #[] }, { accessFlags := 26, nameIndex := 40, descriptorIndex := 12, attributes := #[] }])
  fields := #[{ name := "SHORTS", type := (.object "java/lang/invoke/VarHandle"), accessFlags := 26, slot := 0, constantValue := 0 }, { name := "INTS", type := (.object "java/lang/invoke/VarHandle"), accessFlags := 26, slot := 1, constantValue := 0 }, { name := "LONGS", type := (.object "java/lang/invoke/VarHandle"), accessFlags := 26, slot := 2, constantValue := 0 }]
  methods := #[k2m0, k2m1]
  instanceTypes := #[]
  staticTypes := #[(.object "java/lang/invoke/VarHandle"), (.object "java/lang/invoke/VarHandle"), (.object "java/lang/invoke/VarHandle")]
  resolved := Array.replicate 77 none
  statics := none }

def pool3 : Array CpInfo := pool [(1, u "java/lang/Cloneable"), (0, .class_ 1), (0, u "java/lang/Object"), (0, .class_ 3)] 3

/-- java/lang/Cloneable -/
def k3 : Class := { plain "java/lang/Cloneable" (some 0) with
  accessFlags := 1537
  interfaces := #[]
  cf := some (fileOf pool3 2 #[] #[] 1537 4 #[] #[])
  fields := #[]
  methods := #[]
  instanceTypes := #[]
  staticTypes := #[]
  resolved := Array.replicate 8 none
  statics := none }

def pool4 : Array CpInfo := pool [(1, u "java/io/Serializable"), (0, .class_ 1), (0, u "java/lang/Object"), (0, .class_ 3)] 3

/-- java/io/Serializable -/
def k4 : Class := { plain "java/io/Serializable" (some 0) with
  accessFlags := 1537
  interfaces := #[]
  cf := some (fileOf pool4 2 #[] #[] 1537 4 #[] #[])
  fields := #[]
  methods := #[]
  instanceTypes := #[]
  staticTypes := #[]
  resolved := Array.replicate 8 none
  statics := none }

/-- the primitive byte -/
def k5 : Class := { plain "byte" none with kind := .primitive 'B', accessFlags := 0x411 }
/-- [B -/
def k6 : Class := { plain "[B" (some 0) with kind := .array 5 .byte, interfaces := #[3, 4], accessFlags := 1041 }

/-- the primitive int -/
def k7 : Class := { plain "int" none with kind := .primitive 'I', accessFlags := 0x411 }
/-- [I -/
def k8 : Class := { plain "[I" (some 0) with kind := .array 7 .int, interfaces := #[3, 4], accessFlags := 1041 }

def heap : Heap := #[]
def classes : Array Class := #[k0, k1, k2, k3, k4, k5, k6, k7, k8]
def interned : List (Array UInt16 × Addr) := []
def slotsUsed : Nat := 0
def theMethod : MethodId := ⟨1, 1⟩
def args0 : Array Value := #[.int 5, .long 3, .int 4, .int 9]
def aboutOver (below : List Frame) : State where
  vm := { classes := classes, interned := interned.toArray }
  heap := heap
  slotsUsed := slotsUsed
  threads := #[{ frames := .invoking theMethod args0 :: below }]
def below0 : List Frame := [.native { method := ⟨0, 0⟩, args := #[] }]
def about1 : State := aboutOver below0
def p0 : Program := .bare "" "" ""
def e0 : Env := launch0.env 0 0 0
theorem w_frames : about1.frames = Frame.invoking theMethod args0 :: below0 := rfl
set_option maxRecDepth 65536 in
theorem w_args : argsFit about1.vm theMethod args0 = true := by decide +kernel
set_option maxRecDepth 65536 in
theorem w_heap : heapFits about1 = true := by decide +kernel
set_option maxRecDepth 65536 in
theorem w_runnable : about1.curStatus? = some .runnable := by decide +kernel
set_option maxRecDepth 65536 in
theorem w_alone : about1.alone = true := by decide +kernel
set_option maxRecDepth 65536 in
theorem w_named : about1.methodNamed? x = some theMethod := by decide +kernel
set_option maxRecDepth 65536 in
theorem w_hears : about1.hears theMethod below0 = true := by decide +kernel
set_option maxRecDepth 65536 in
theorem w_ripe : about1.ripe theMethod args0 below0 = true := by decide +kernel
theorem w_running : about1.status = .running := rfl
set_option maxRecDepth 65536 in
theorem w_room : about1.hasRoom e0.platform room_1 = true :=
  launch0.hasRoom_least _ room_1 (by decide +kernel) (by decide +kernel) (by decide +kernel) (by decide +kernel) (by decide +kernel) (by decide +kernel)
theorem allAtoms_all (ts : List Jvm.Cond) (a : Array Jvm.Value) (st : Jvm.State) : (allAtoms ts).before a st = ts.all (fun c => c.before a st) := by
  induction ts with
  | nil => rfl
  | cons c t ih =>
    show (Jvm.Cond.and c (allAtoms t)).before a st = _
    rw [Jvm.Cond.before_and, ih, List.all_cons]
def words1 : List Jvm.Cond := Jvm.Cond.code x code maxLocals ret :: tables_1
/-- a 'code' word, met by the world's own term for the bytes: nothing is compared byte by byte -/
theorem code_word {y : MethodName} {bytes : ByteArray} {mx : Nat} {rt : Option FieldType} {a : Array Value} {s : State} {m : MethodId} {meth : Method} {c : Code} (h1 : s.methodNamed? y = some m) (h2 : s.vm.method? m = some meth) (h3 : meth.code = some c) (h4 : c.code = bytes)
    (h5 : (c.maxLocals == mx && c.exceptionTable.isEmpty && decide (c.maxStack ≤ mostOperands) && decide (meth.sig.returnType = rt) && !meth.locks && decide (parseMethodDescriptor y.desc = some meth.sig)) = true) : (Jvm.Cond.code y bytes mx rt).before a s = true := by
  simp only [Bool.and_eq_true, beq_iff_eq, Bool.not_eq_true', decide_eq_true_eq] at h5
  obtain ⟨⟨⟨⟨⟨g1, g2⟩, g3⟩, g4⟩, g5⟩, g6⟩ := h5
  simp [Cond.before, Cond.holds, Cond.value, h1, h2, h3, h4, g1, g2, g3, g4, g5, g6]
def isCode : Jvm.Cond → Bool
  | .code _ _ _ _ => true
  | _ => false
theorem all_split {L : List Jvm.Cond} {P : Jvm.Cond → Bool} (h1 : L.all (fun c => isCode c || P c) = true) (h2 : ∀ c ∈ L.filter isCode, P c = true) : L.all P = true := by
  refine List.all_eq_true.mpr fun c hc => ?_
  have h := List.all_eq_true.mp h1 c hc
  rcases Bool.eq_false_or_eq_true (isCode c) with hi | hi
  · exact h2 c (List.mem_filter.mpr ⟨hc, hi⟩)
  · simpa [hi] using h
set_option maxRecDepth 65536 in
theorem w_c0 : (Jvm.Cond.code x code maxLocals ret).before args0 about1 = true := code_word (m := ⟨1, 1⟩) (meth := k1m1) (c := k1c1) (by decide +kernel) rfl rfl rfl (by decide +kernel)
set_option maxRecDepth 65536 in
theorem w_c1 : (Jvm.Cond.code ({ cls := "com/example/libmsgframe/libmsgframe/dsa2/LittleEndian", name := "putLowBytes", desc := "([BIJI)V" } : Jvm.MethodName) prog_53_method_7_code (6 : Nat) (Option.none : Option Jvm.ClassFile.FieldType)).before args0 about1 = true := code_word (m := ⟨2, 1⟩) (meth := k2m1) (c := k2c1) (by decide +kernel) rfl rfl rfl (by decide +kernel)
set_option maxRecDepth 65536 in
theorem w_c2 : (Jvm.Cond.code ({ cls := "com/example/libmsgframe/libmsgframe/dsa2/LittleEndianPutLowBytesPinLaw", name := "ok", desc := "([BIIIJB)Z" } : Jvm.MethodName) method_3_code (9 : Nat) (Option.some Jvm.ClassFile.FieldType.boolean)).before args0 about1 = true := code_word (m := ⟨1, 2⟩) (meth := k1m2) (c := k1c2) (by decide +kernel) rfl rfl rfl (by decide +kernel)
def codes1 : List Jvm.Cond := [Jvm.Cond.code x code maxLocals ret, Jvm.Cond.code ({ cls := "com/example/libmsgframe/libmsgframe/dsa2/LittleEndian", name := "putLowBytes", desc := "([BIJI)V" } : Jvm.MethodName) prog_53_method_7_code (6 : Nat) (Option.none : Option Jvm.ClassFile.FieldType), Jvm.Cond.code ({ cls := "com/example/libmsgframe/libmsgframe/dsa2/LittleEndianPutLowBytesPinLaw", name := "ok", desc := "([BIIIJB)Z" } : Jvm.MethodName) method_3_code (9 : Nat) (Option.some Jvm.ClassFile.FieldType.boolean)]
set_option maxRecDepth 65536 in
theorem codes_eq : words1.filter isCode = codes1 := rfl
theorem w_codes : ∀ c ∈ words1.filter isCode, c.before args0 about1 = true := by
  rw [codes_eq]
  intro c hc
  simp only [codes1, List.mem_cons, List.not_mem_nil, or_false] at hc
  rcases hc with rfl | rfl | rfl
  · exact w_c0
  · exact w_c1
  · exact w_c2
set_option maxRecDepth 65536 in
theorem w_t1 : words1.all (fun c => isCode c || c.before args0 about1) = true := by decide +kernel
theorem w_tables : (allAtoms (Jvm.Cond.code x code maxLocals ret :: tables_1)).before args0 about1 = true := by
  rw [allAtoms_all]
  show words1.all (fun c => c.before args0 about1) = true
  refine all_split ?_ w_codes
  rw [w_t1]
set_option maxRecDepth 65536 in
theorem w_case : (Jvm.Cond.and given_1 narrow_1).before args0 about1 = true := by decide +kernel
theorem w_applies : (headSpec (Jvm.Cond.code x code maxLocals ret :: tables_1) room_1).applies x e0.platform about1 = true :=
  (Spec.applies_iff w_frames).mpr ⟨w_running, w_runnable, w_alone, w_named, w_hears, w_ripe, w_room, w_tables⟩
theorem atStart : AtStart classFile x code maxLocals ret World_1 tables_1 room_1 Calls_1 rest_1 Pre_1 launch0 p0 e0 about1 theMethod args0 below0 :=
  ⟨lists_1, trivial, launch0.admits_env _ _ _, launch0.least_env, fairChoices_fair.cas, fairChoices_fair.clock, w_frames, w_args, w_heap, w_applies, trivial, trivial, w_case⟩
end start1
theorem witness_1 : WitnessClaimed_1 := ⟨start1.p0, start1.e0, start1.about1, start1.theMethod, start1.args0, start1.below0, start1.atStart⟩
end Jvm.Pilot.@@N@@
