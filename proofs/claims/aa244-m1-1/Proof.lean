import JvmDerived
import JvmDerived.Pilot.@@N@@Statement
import JvmDerived.Pilot.@@N@@Code
set_option linter.unusedVariables false
set_option linter.unusedSimpArgs false
@@BLOCK:NumsL.lean.txt@@
namespace Jvm.RoadKit
open Sem ClassFile Op Lib Jvm.Stand Jvm.Free Jvm.LawKit
section Own
variable {p : Program} {l : Launch} {e : Env} {R : Room} {s : State} {m : MethodId} {args : Array Value} {below : List Frame} {meth : Method} {c : Code} {T : State} {locs : List Loc} {cells slots : Nat} {Z : State} {h h' : Heap} {Q : Option Value → Heap → List Loc → Prop} {kc ks : Nat}
/-- from the state S the run comes to an end of which Q holds -/
def OGo (p : Program) (e : Env) (below : List Frame) (s : State) (Q : Option Value → Heap → List Loc → Prop) (kc ks : Nat) (S : State) : Prop :=
  ∃ s₂ o, Steps p.tables e below S s₂ ∧ s₂.status = .running ∧ Ended s₂ below o ∧ ∃ v L, o = .returned v ∧ Q v s₂.heap L ∧ FrameEnd s o s₂ L kc ks
theorem OGo.on {C N : State} (st : ∀ t, Steps p.tables e below N t → Steps p.tables e below C t) (h : OGo p e below s Q kc ks N) : OGo p e below s Q kc ks C := by
  obtain ⟨s₂, o, h1, h2⟩ := h
  exact ⟨s₂, o, st _ h1, h2⟩
theorem OGo.fin (X : Stand p l e R s m args below meth c T locs cells slots) {v : Option Value} (hv : meth.sig.returnType = none → v = none) (hlocks : meth.locks = false) {C : State}
    (st : ∀ fs, (∀ (f : JFrame) (acts : List Action), f.method = m → f.locked = none → f.entered = [] → (doReturn e (T.setTop f) acts v).1 = T.setFrames fs) → Steps p.tables e below C (T.setFrames fs)) (hq : Q v T.heap locs) (hc : cells ≤ kc) (hs : slots ≤ ks) : OGo p e below s Q kc ks C := by
  obtain ⟨fs, hr, hrun, hended, hW, hsame⟩ := X.leave hv hlocks
  exact ⟨_, _, st fs hr, hrun, hended, v, locs, rfl, hq, ⟨_, rfl⟩, hW, hsame.mono hc hs⟩
theorem OGo.retN (X : Stand p l e R s m args below meth c T locs cells slots) (hx : p.tables.exec = Jvm.exec) {pc : Nat} {Ls : Array Slot} {z : Int32} {t : FieldType} {rest : List Value} (hret : meth.sig.returnType = some t) (hlocks : meth.locks = false) (ht : t = .boolean ∨ t = .byte ∨ t = .char ∨ t = .short)
    (hd : decode c.code pc = .ok (.ireturn, 1)) (hq : Q (some (.int (nar t z))) T.heap locs) (hc : cells ≤ kc) (hs : slots ≤ ks) : OGo p e below s Q kc ks (T.setTop (mkF m pc Ls (.int z :: rest))) :=
  OGo.fin X (fun h => by rw [hret] at h; cases h) hlocks (fun fs hr => Jvm.RoadKit.retN X hx hret ht hd hr) hq hc hs
theorem OGo.retI (X : Stand p l e R s m args below meth c T locs cells slots) (hx : p.tables.exec = Jvm.exec) {pc : Nat} {Ls : Array Slot} {z : Int32} {rest : List Value} (hret : meth.sig.returnType = some .int) (hlocks : meth.locks = false)
    (hd : decode c.code pc = .ok (.ireturn, 1)) (hq : Q (some (.int z)) T.heap locs) (hc : cells ≤ kc) (hs : slots ≤ ks) : OGo p e below s Q kc ks (T.setTop (mkF m pc Ls (.int z :: rest))) :=
  OGo.fin X (fun h => by rw [hret] at h; cases h) hlocks (fun fs hr => retOut X hx hret rfl (Or.inl ⟨rfl, Or.inl rfl, _, rfl⟩) hd hr) hq hc hs
theorem OGo.retJ (X : Stand p l e R s m args below meth c T locs cells slots) (hx : p.tables.exec = Jvm.exec) {pc : Nat} {Ls : Array Slot} {z : Int64} {rest : List Value} (hret : meth.sig.returnType = some .long) (hlocks : meth.locks = false)
    (hd : decode c.code pc = .ok (.lreturn, 1)) (hq : Q (some (.long z)) T.heap locs) (hc : cells ≤ kc) (hs : slots ≤ ks) : OGo p e below s Q kc ks (T.setTop (mkF m pc Ls (.long z :: rest))) :=
  OGo.fin X (fun h => by rw [hret] at h; cases h) hlocks (fun fs hr => retOut X hx hret rfl (Or.inr (Or.inl ⟨rfl, rfl, _, rfl⟩)) hd hr) hq hc hs
theorem OGo.retA (X : Stand p l e R s m args below meth c T locs cells slots) (hx : p.tables.exec = Jvm.exec) {pc : Nat} {Ls : Array Slot} {a : Addr} {t : FieldType} {rest : List Value} (hret : meth.sig.returnType = some t) (ht : t.isReference = true) (hn : narrow t (.ref a) = .ref a) (hlocks : meth.locks = false)
    (hd : decode c.code pc = .ok (.areturn, 1)) (hq : Q (some (.ref a)) T.heap locs) (hc : cells ≤ kc) (hs : slots ≤ ks) : OGo p e below s Q kc ks (T.setTop (mkF m pc Ls (.ref a :: rest))) :=
  OGo.fin X (fun h => by rw [hret] at h; cases h) hlocks (fun fs hr => retOut X hx hret hn (Or.inr (Or.inr (Or.inr (Or.inr ⟨rfl, ht, rfl⟩)))) hd hr) hq hc hs
theorem OGo.ret0 (X : Stand p l e R s m args below meth c T locs cells slots) (hx : p.tables.exec = Jvm.exec) {pc : Nat} {Ls : Array Slot} (hret : meth.sig.returnType = none) (hlocks : meth.locks = false)
    (hd : decode c.code pc = .ok (.return_, 1)) (hq : Q none T.heap locs) (hc : cells ≤ kc) (hs : slots ≤ ks) : OGo p e below s Q kc ks (T.setTop (mkF m pc Ls [])) :=
  OGo.fin X (fun _ => rfl) hlocks (fun fs hr => X.returnOut hx hret hd hr) hq hc hs
/-- the places written so far, without their names -/
theorem own_hide {k : Nat} (X : Stand p l e R s m args below meth c T locs cells slots) (N : Fr k locs) : ∃ L, Stand p l e R s m args below meth c T L cells slots ∧ Fr k L := ⟨_, X, N⟩
/-- what a body that writes nothing leaves -/
def OPure (n0 : Nat) (h0 : Heap) (r : Option Value) (v : Option Value) (h : Heap) (L : List Loc) : Prop := v = r ∧ Fr n0 L ∧ h = h0
theorem opI {n0 : Nat} {h0 : Heap} {x y : Int32} {L : List Loc} (q : x = y) (N : Fr n0 L) (E : h = h0) : OPure n0 h0 (some (.int y)) (some (.int x)) h L := ⟨by rw [q], N, E⟩
theorem opJ {n0 : Nat} {h0 : Heap} {x y : Int64} {L : List Loc} (q : x = y) (N : Fr n0 L) (E : h = h0) : OPure n0 h0 (some (.long y)) (some (.long x)) h L := ⟨by rw [q], N, E⟩
theorem own_nz1 : nar .boolean 1 = 1 := rfl
theorem own_nz0 : nar .boolean 0 = 0 := rfl
theorem own_irem {C : State} {x y : Int32} {g : JFrame} (X : Stand p l e R s m args below meth c T locs cells slots) (hx : p.tables.exec = Jvm.exec) (hg : g.method = m) {rest : List Value} (hd : decode c.code g.pc = .ok (.irem, 1)) (hs : g.stack = .int y :: .int x :: rest) (hy : y ≠ 0) :
    ∀ t, Steps p.tables e below (T.setTop { g with pc := g.pc + 1, stack := .int (x % y) :: rest }) t → Steps p.tables e below (T.setTop g) t := fun t k => iremM X hx hg hd hs hy k
/-! lcmp and the branch behind it -/
theorem own_lc (cd : ClassFile.Cond) (a b : Int64) : ifCond.holds cd (lcmpW a b) = (match cd with | .eq => decide (a = b) | .ne => !decide (a = b) | .lt => decide (a < b) | .ge => !decide (a < b) | .gt => decide (b < a) | .le => !decide (b < a)) := by
  have h1 : a = b ↔ a.toInt = b.toInt := (Int64.toInt_inj).symm
  by_cases g : a > b
  · have g' : b.toInt < a.toInt := Int64.lt_iff_toInt_lt.mp g
    have e1 : lcmpW a b = 1 := if_pos g
    have e2 : ¬ a = b := fun q => by rw [h1] at q; omega
    have e3 : ¬ a < b := fun q => by rw [Int64.lt_iff_toInt_lt] at q; omega
    have e4 : b < a := g
    rw [e1]; cases cd <;> simp [e2, e3, e4] <;> decide
  · by_cases q : a = b
    · have e1 : lcmpW a b = 0 := by rw [lcmpW, if_neg g, if_pos q]
      subst q
      have e3 : ¬ a < a := fun q => by rw [Int64.lt_iff_toInt_lt] at q; omega
      rw [e1]; cases cd <;> simp [e3] <;> decide
    · have e1 : lcmpW a b = -1 := by rw [lcmpW, if_neg g, if_neg q]
      have g1 : ¬ b < a := g
      have g2 : a < b := by rw [Int64.lt_iff_toInt_lt] at g1 ⊢; rw [h1] at q; omega
      rw [e1]; cases cd <;> simp [q, g1, g2] <;> decide
theorem lc_tlt {a b : Int64} (h : a < b) : ifCond.holds .lt (lcmpW a b) = true ∧ ifCond.holds .ge (lcmpW a b) = false ∧ ifCond.holds .gt (lcmpW b a) = true ∧ ifCond.holds .le (lcmpW b a) = false := by simp only [own_lc]; simp [h]
theorem lc_flt {a b : Int64} (h : ¬ a < b) : ifCond.holds .lt (lcmpW a b) = false ∧ ifCond.holds .ge (lcmpW a b) = true ∧ ifCond.holds .gt (lcmpW b a) = false ∧ ifCond.holds .le (lcmpW b a) = true := by simp only [own_lc]; simp [h]
theorem lc_teq {a b : Int64} (h : a = b) : ifCond.holds .eq (lcmpW a b) = true ∧ ifCond.holds .ne (lcmpW a b) = false := by simp only [own_lc]; simp [h]
theorem lc_feq {a b : Int64} (h : ¬ a = b) : ifCond.holds .eq (lcmpW a b) = false ∧ ifCond.holds .ne (lcmpW a b) = true := by simp only [own_lc]; simp [h]
theorem own_nm0 {a : Addr} : a ∉ ([] : List Addr) := fun q => nomatch q
theorem own_nm1 {a b : Addr} (h : a ≠ b) : a ∉ [b] := fun q => h (List.mem_singleton.mp q)
theorem own_nm2 {a b d : Addr} (h : a ≠ b) (h' : a ≠ d) : a ∉ [b, d] := fun q => (List.mem_cons.mp q).elim h fun q => h' (List.mem_singleton.mp q)
theorem own_nm3 {a b d f : Addr} (h : a ≠ b) (h' : a ≠ d) (h'' : a ≠ f) : a ∉ [b, d, f] := fun q => (List.mem_cons.mp q).elim h fun q => (own_nm2 h' h'') q
/-! arrays of numbers, known whole -/
/-- the array at a holds just the ints vs -/
def OAL (Z : State) (h : Heap) (a : Addr) (ty : FieldType) (vs : List Int32) : Prop := ∃ c : Cell, Arr Z h a c ty ∧ c.slots = (vs.map Value.int).toArray
/-- the array at a holds just the longs vs -/
def OAJ (Z : State) (h : Heap) (a : Addr) (vs : List Int64) : Prop := ∃ c : Cell, Arr Z h a c .long ∧ c.slots = (vs.map Value.long).toArray
/-- the place j lies inside and holds v -/
def OAt {α : Type} (vs : List α) (j : Int32) (v : α) : Prop := ¬ j < 0 ∧ vs[j.toNatClampNeg]? = some v
variable {a b : Addr} {ty : FieldType} {vs : List Int32} {us : List Int64} {ws : List Addr} {sl : Nat} {w : Value}
theorem OAL.lt (A : OAL Z h a ty vs) : a < h.size := by obtain ⟨c, A, -⟩ := A; exact A.lt
theorem OAJ.lt (A : OAJ Z h a us) : a < h.size := by obtain ⟨c, A, -⟩ := A; exact A.lt
theorem OAL.ext (A : OAL Z h a ty vs) (E : Ext h h') : OAL Z h' a ty vs := by obtain ⟨c, A, r⟩ := A; exact ⟨c, A.ext E, r⟩
theorem OAJ.ext (A : OAJ Z h a us) (E : Ext h h') : OAJ Z h' a us := by obtain ⟨c, A, r⟩ := A; exact ⟨c, A.ext E, r⟩
theorem OAL.keep (A : OAL Z h a ty vs) (K : Keep h h' ws) (q : a ∉ ws) : OAL Z h' a ty vs := by obtain ⟨c, A, r⟩ := A; exact ⟨c, ⟨K.2.1 a c A.1 q, A.2⟩, r⟩
theorem OAJ.keep (A : OAJ Z h a us) (K : Keep h h' ws) (q : a ∉ ws) : OAJ Z h' a us := by obtain ⟨c, A, r⟩ := A; exact ⟨c, ⟨K.2.1 a c A.1 q, A.2⟩, r⟩
theorem OAL.other (A : OAL Z h b ty vs) (W : Wr h h' a sl w) (q : b ≠ a) : OAL Z h' b ty vs := by obtain ⟨c, A, r⟩ := A; exact ⟨c, A.other W q, r⟩
theorem OAJ.other (A : OAJ Z h b us) (W : Wr h h' a sl w) (q : b ≠ a) : OAJ Z h' b us := by obtain ⟨c, A, r⟩ := A; exact ⟨c, A.other W q, r⟩
theorem own_slots (cl : Cell) (i : Nat) (v : Value) : (cl.setSlot i v).slots = cl.slots.setIfInBounds i v := rfl
theorem OAL.same (A : OAL Z h a ty vs) {i : Nat} {x : Int32} (W : Wr h h' a i (.int x)) : OAL Z h' a ty (vs.set i x) := by
  obtain ⟨c, A, r⟩ := A
  exact ⟨_, A.same W, by rw [own_slots, r]; simp [List.map_set]⟩
theorem OAJ.same (A : OAJ Z h a us) {i : Nat} {x : Int64} (W : Wr h h' a i (.long x)) : OAJ Z h' a (us.set i x) := by
  obtain ⟨c, A, r⟩ := A
  exact ⟨_, A.same W, by rw [own_slots, r]; simp [List.map_set]⟩
theorem OAL.new {cA : ClassId} {n : Int32} (A : Arr Z h a (newA cA ty n) ty) (q : defaultValue ty = .int 0) : OAL Z h a ty (List.replicate n.toNatClampNeg 0) := ⟨_, A, by
  show Array.replicate n.toNatClampNeg (defaultValue ty) = _
  rw [q]; simp⟩
theorem OAJ.new {cA : ClassId} {n : Int32} (A : Arr Z h a (newA cA .long n) .long) : OAJ Z h a (List.replicate n.toNatClampNeg 0) := ⟨_, A, by
  show Array.replicate n.toNatClampNeg (Value.long 0) = _
  simp⟩
theorem own_in {α : Type} {vs : List α} {f : α → Value} {j : Int32} {v : α} {cl : Cell} (r : cl.slots = (vs.map f).toArray) (q : OAt vs j v) : ¬ (j < 0 ∨ cl.slots.size ≤ j.toNatClampNeg) ∧ cl.slots[j.toNatClampNeg]? = some (f v) := by
  obtain ⟨q1, q2⟩ := q
  have hl := (List.getElem?_eq_some_iff.mp q2).1
  rw [r]
  refine ⟨fun z => z.elim q1 fun y => ?_, ?_⟩
  · simp at y; omega
  · simp [q2]
theorem OAL.baB (X : Stand p l e R s m args below meth c T locs cells slots) (hx : p.tables.exec = Jvm.exec) (hZ : Z.Warmed39 s.vm) (eT : T.heap = h) (A : OAL Z h a .byte vs) {j v : Int32} (q : OAt vs j v) {pc : Nat} {Ls : Array Slot} {rest : List Value} (hd : decode c.code pc = .ok (.baload, 1)) {t : State}
    (k : Steps p.tables e below (T.setTop (mkF m (pc + 1) Ls (.int v :: rest))) t) : Steps p.tables e below (T.setTop (mkF m pc Ls (.int j :: .ref a :: rest))) t := by
  obtain ⟨cl, A, r⟩ := A
  exact X.baloadBytes hx (j := j) (v := .int v) (by rw [eT]; exact A.1) (State.isArrayOf_alike hZ.alike A.2.1) A.2.2 (own_in r q).1 (own_in r q).2 (g := mkF m pc Ls (.int j :: .ref a :: rest)) rfl rfl hd _ k
theorem OAL.baZ (X : Stand p l e R s m args below meth c T locs cells slots) (hx : p.tables.exec = Jvm.exec) (hZ : Z.Warmed39 s.vm) (eT : T.heap = h) (A : OAL Z h a .boolean vs) {j v : Int32} (q : OAt vs j v) {pc : Nat} {Ls : Array Slot} {rest : List Value} (hd : decode c.code pc = .ok (.baload, 1)) {t : State}
    (k : Steps p.tables e below (T.setTop (mkF m (pc + 1) Ls (.int v :: rest))) t) : Steps p.tables e below (T.setTop (mkF m pc Ls (.int j :: .ref a :: rest))) t := by
  obtain ⟨cl, A, r⟩ := A
  exact X.baloadBooleans hx (j := j) (v := .int v) (by rw [eT]; exact A.1) (State.isArrayOf_alike hZ.alike A.2.1) A.2.2 (own_in r q).1 (own_in r q).2 (g := mkF m pc Ls (.int j :: .ref a :: rest)) rfl rfl hd _ k
theorem OAL.ia (X : Stand p l e R s m args below meth c T locs cells slots) (hx : p.tables.exec = Jvm.exec) (hZ : Z.Warmed39 s.vm) (eT : T.heap = h) (A : OAL Z h a .int vs) {j v : Int32} (q : OAt vs j v) {pc : Nat} {Ls : Array Slot} {rest : List Value} (hd : decode c.code pc = .ok (.iaload, 1)) {t : State}
    (k : Steps p.tables e below (T.setTop (mkF m (pc + 1) Ls (.int v :: rest))) t) : Steps p.tables e below (T.setTop (mkF m pc Ls (.int j :: .ref a :: rest))) t := by
  obtain ⟨cl, A, r⟩ := A
  exact X.iaload hx (j := j) (v := .int v) (by rw [eT]; exact A.1) (State.isArrayOf_alike hZ.alike A.2.1) A.2.2 (own_in r q).1 (own_in r q).2 (g := mkF m pc Ls (.int j :: .ref a :: rest)) rfl rfl hd _ k
theorem OAJ.la (X : Stand p l e R s m args below meth c T locs cells slots) (hx : p.tables.exec = Jvm.exec) (hZ : Z.Warmed39 s.vm) (eT : T.heap = h) (A : OAJ Z h a us) {j : Int32} {v : Int64} (q : OAt us j v) {pc : Nat} {Ls : Array Slot} {rest : List Value} (hd : decode c.code pc = .ok (.laload, 1)) {t : State}
    (k : Steps p.tables e below (T.setTop (mkF m (pc + 1) Ls (.long v :: rest))) t) : Steps p.tables e below (T.setTop (mkF m pc Ls (.int j :: .ref a :: rest))) t := by
  obtain ⟨cl, A, r⟩ := A
  exact X.laload hx (j := j) (v := .long v) (by rw [eT]; exact A.1) (State.isArrayOf_alike hZ.alike A.2.1) A.2.2 (own_in r q).1 (own_in r q).2 (g := mkF m pc Ls (.int j :: .ref a :: rest)) rfl rfl hd _ k
theorem OAL.len (X : Stand p l e R s m args below meth c T locs cells slots) (hx : p.tables.exec = Jvm.exec) (hZ : Z.Warmed39 s.vm) (eT : T.heap = h) (A : OAL Z h a ty vs) {n : Int32} (q : vs.length.toInt32 = n) {pc : Nat} {Ls : Array Slot} {rest : List Value} (hd : decode c.code pc = .ok (.arraylength, 1)) {t : State}
    (k : Steps p.tables e below (T.setTop (mkF m (pc + 1) Ls (.int n :: rest))) t) : Steps p.tables e below (T.setTop (mkF m pc Ls (.ref a :: rest))) t := by
  obtain ⟨cl, A, r⟩ := A
  have z : cl.slots.size = vs.length := by rw [r]; simp
  exact X.arraylength hx (by rw [eT]; exact A.1) (State.isArrayOf_alike hZ.alike A.2.1) (g := mkF m pc Ls (.ref a :: rest)) rfl rfl hd _ (by rw [z, q]; exact k)
theorem OAJ.len (X : Stand p l e R s m args below meth c T locs cells slots) (hx : p.tables.exec = Jvm.exec) (hZ : Z.Warmed39 s.vm) (eT : T.heap = h) (A : OAJ Z h a us) {n : Int32} (q : us.length.toInt32 = n) {pc : Nat} {Ls : Array Slot} {rest : List Value} (hd : decode c.code pc = .ok (.arraylength, 1)) {t : State}
    (k : Steps p.tables e below (T.setTop (mkF m (pc + 1) Ls (.int n :: rest))) t) : Steps p.tables e below (T.setTop (mkF m pc Ls (.ref a :: rest))) t := by
  obtain ⟨cl, A, r⟩ := A
  have z : cl.slots.size = us.length := by rw [r]; simp
  exact X.arraylength hx (by rw [eT]; exact A.1) (State.isArrayOf_alike hZ.alike A.2.1) (g := mkF m pc Ls (.ref a :: rest)) rfl rfl hd _ (by rw [z, q]; exact k)
theorem own_into {α : Type} {vs : List α} {f : α → Value} {j : Int32} {cl : Cell} (r : cl.slots = (vs.map f).toArray) (q1 : ¬ j < 0) (q2 : j.toNatClampNeg < vs.length) : ¬ (j < 0 ∨ cl.slots.size ≤ j.toNatClampNeg) := by
  rw [r]
  exact fun z => z.elim q1 fun y => by simp at y; omega
theorem OAL.stB (X : Stand p l e R s m args below meth c T locs cells slots) (hx : p.tables.exec = Jvm.exec) (hZ : Z.Warmed39 s.vm) (eT : T.heap = h) (A : OAL Z h a .byte vs) {j x : Int32} (q1 : ¬ j < 0) (q2 : j.toNatClampNeg < vs.length) {pc : Nat} {Ls : Array Slot} {rest : List Value} (hd : decode c.code pc = .ok (.bastore, 1)) :
    ∃ T' h', Stand p l e R s m args below meth c T' (locs ++ [⟨a, j.toNatClampNeg⟩]) cells slots ∧ T'.heap = h' ∧ Wr h h' a j.toNatClampNeg (.int (nar .byte x)) ∧ OAL Z h' a .byte (vs.set j.toNatClampNeg (nar .byte x)) ∧ ∀ t, Steps p.tables e below (T'.setTop (mkF m (pc + 1) Ls rest)) t → Steps p.tables e below (T.setTop (mkF m pc Ls (.int x :: .int j :: .ref a :: rest))) t := by
  obtain ⟨cl, A', r⟩ := A
  obtain ⟨T', h', X', e', W', st⟩ := Jvm.RoadKit.stB X hx hZ eT A' (j := j) (x := x) (own_into r q1 q2) (g := mkF m pc Ls (.int x :: .int j :: .ref a :: rest)) rfl rfl hd
  exact ⟨T', h', X', e', W', OAL.same ⟨cl, A', r⟩ W', st⟩
theorem OAL.stZ (X : Stand p l e R s m args below meth c T locs cells slots) (hx : p.tables.exec = Jvm.exec) (hZ : Z.Warmed39 s.vm) (eT : T.heap = h) (A : OAL Z h a .boolean vs) {j x : Int32} (q1 : ¬ j < 0) (q2 : j.toNatClampNeg < vs.length) {pc : Nat} {Ls : Array Slot} {rest : List Value} (hd : decode c.code pc = .ok (.bastore, 1)) :
    ∃ T' h', Stand p l e R s m args below meth c T' (locs ++ [⟨a, j.toNatClampNeg⟩]) cells slots ∧ T'.heap = h' ∧ Wr h h' a j.toNatClampNeg (.int (nar .boolean x)) ∧ OAL Z h' a .boolean (vs.set j.toNatClampNeg (nar .boolean x)) ∧ ∀ t, Steps p.tables e below (T'.setTop (mkF m (pc + 1) Ls rest)) t → Steps p.tables e below (T.setTop (mkF m pc Ls (.int x :: .int j :: .ref a :: rest))) t := by
  obtain ⟨cl, A', r⟩ := A
  obtain ⟨T', h', X', e', W', st⟩ := Jvm.RoadKit.stZ X hx hZ eT A' (j := j) (x := x) (own_into r q1 q2) (g := mkF m pc Ls (.int x :: .int j :: .ref a :: rest)) rfl rfl hd
  exact ⟨T', h', X', e', W', OAL.same ⟨cl, A', r⟩ W', st⟩
theorem OAL.stI (X : Stand p l e R s m args below meth c T locs cells slots) (hx : p.tables.exec = Jvm.exec) (hZ : Z.Warmed39 s.vm) (eT : T.heap = h) (A : OAL Z h a .int vs) {j x : Int32} (q1 : ¬ j < 0) (q2 : j.toNatClampNeg < vs.length) {pc : Nat} {Ls : Array Slot} {rest : List Value} (hd : decode c.code pc = .ok (.iastore, 1)) :
    ∃ T' h', Stand p l e R s m args below meth c T' (locs ++ [⟨a, j.toNatClampNeg⟩]) cells slots ∧ T'.heap = h' ∧ Wr h h' a j.toNatClampNeg (.int x) ∧ OAL Z h' a .int (vs.set j.toNatClampNeg x) ∧ ∀ t, Steps p.tables e below (T'.setTop (mkF m (pc + 1) Ls rest)) t → Steps p.tables e below (T.setTop (mkF m pc Ls (.int x :: .int j :: .ref a :: rest))) t := by
  obtain ⟨cl, A', r⟩ := A
  obtain ⟨T', h', X', e', W', st⟩ := Jvm.RoadKit.stI X hx hZ eT A' (j := j) (x := x) (own_into r q1 q2) (g := mkF m pc Ls (.int x :: .int j :: .ref a :: rest)) rfl rfl hd
  exact ⟨T', h', X', e', W', OAL.same ⟨cl, A', r⟩ W', st⟩
theorem OAJ.stJ (X : Stand p l e R s m args below meth c T locs cells slots) (hx : p.tables.exec = Jvm.exec) (hZ : Z.Warmed39 s.vm) (eT : T.heap = h) (A : OAJ Z h a us) {j : Int32} {x : Int64} (q1 : ¬ j < 0) (q2 : j.toNatClampNeg < us.length) {pc : Nat} {Ls : Array Slot} {rest : List Value} (hd : decode c.code pc = .ok (.lastore, 1)) :
    ∃ T' h', Stand p l e R s m args below meth c T' (locs ++ [⟨a, j.toNatClampNeg⟩]) cells slots ∧ T'.heap = h' ∧ Wr h h' a j.toNatClampNeg (.long x) ∧ OAJ Z h' a (us.set j.toNatClampNeg x) ∧ ∀ t, Steps p.tables e below (T'.setTop (mkF m (pc + 1) Ls rest)) t → Steps p.tables e below (T.setTop (mkF m pc Ls (.long x :: .int j :: .ref a :: rest))) t := by
  obtain ⟨cl, A', r⟩ := A
  obtain ⟨T', h', X', e', W', st⟩ := Jvm.RoadKit.stJ X hx hZ eT A' (j := j) (x := x) (own_into r q1 q2) (g := mkF m pc Ls (.long x :: .int j :: .ref a :: rest)) rfl rfl hd
  exact ⟨T', h', X', e', W', OAJ.same ⟨cl, A', r⟩ W', st⟩
end Own
end Jvm.RoadKit
namespace Jvm.Pilot.@@N@@
open Jvm Jvm.ClassFile Sem Op Lib Jvm.Free Jvm.Stand Jvm.LawKit Jvm.RoadKit Bundle Jvm.Pilot.@@N@@.Jvm.D
theorem own_x {m : Nat} {P : Int32 → Prop} {o : Int32} (h : ∃ n : Fin m, o = Int32.ofNat n.val) (k : ∀ n : Fin m, P (Int32.ofNat n.val)) : P o := by obtain ⟨n, rfl⟩ := h; exact k n
theorem own_mod (a k : Int32) {m : Nat} (hk : k.toInt = m) (h0 : 0 < m) (h1 : m < 2 ^ 31) : ∃ n : Fin m, (a &&& 2147483647) % k = Int32.ofNat n.val := by
  have e : 0 ≤ (a &&& 2147483647).toInt := by
    rw [Jvm.Kit.i32_mask a 2147483647 (k := 31) (by decide) (by decide)]; exact Int.emod_nonneg _ (by decide)
  have e2 := Jvm.Kit.i32_rem_nonneg (x := a &&& 2147483647) (y := k) e
  rw [hk] at e2
  have m1 := Int.emod_nonneg (a &&& 2147483647).toInt (b := (m : Int)) (by omega)
  have m2 := Int.emod_lt_of_pos (a &&& 2147483647).toInt (b := (m : Int)) (by omega)
  refine ⟨⟨((a &&& 2147483647).toInt % m).toNat, by omega⟩, ?_⟩
  rw [← Int32.toInt_inj, e2, Int32.toInt_ofNat_of_lt (by show ((a &&& 2147483647).toInt % m).toNat < _; omega)]
  show _ = ((((a &&& 2147483647).toInt % m).toNat : Nat) : Int)
  omega
theorem own_rel (x : Int) : ((¬ x < 65 ∧ ¬ 90 < x) ∨ (¬ x < 97 ∧ ¬ 122 < x) ∨ x = 95 ∨ (¬ x < 192 ∧ ¬ 214 < x) ∨ (¬ x < 216 ∧ ¬ 246 < x) ∨ (¬ x < 248 ∧ ¬ 767 < x) ∨ (¬ x < 880 ∧ ¬ 893 < x) ∨ (¬ x < 895 ∧ ¬ 8191 < x) ∨ (¬ x < 8204 ∧ ¬ 8205 < x) ∨ (¬ x < 8304 ∧ ¬ 8591 < x) ∨ (¬ x < 11264 ∧ ¬ 12271 < x) ∨ (¬ x < 12289 ∧ ¬ 55295 < x) ∨ (¬ x < 63744 ∧ ¬ 64975 < x) ∨ (¬ x < 65008 ∧ ¬ 65533 < x) ∨ (¬ x < 65536 ∧ ¬ 983039 < x)) ↔ ¬ (x < 65 ∨ 983039 < x ∨ (¬ x < 91 ∧ ¬ 94 < x) ∨ x = 96 ∨ (¬ x < 123 ∧ ¬ 191 < x) ∨ (x = 215 ∨ x = 247) ∨ (¬ x < 768 ∧ ¬ 879 < x) ∨ x = 894 ∨ (¬ x < 8192 ∧ ¬ 8203 < x) ∨ (¬ x < 8206 ∧ ¬ 8303 < x) ∨ (¬ x < 8592 ∧ ¬ 11263 < x) ∨ (¬ x < 12272 ∧ ¬ 12288 < x) ∨ (¬ x < 55296 ∧ ¬ 63743 < x) ∨ (¬ x < 64976 ∧ ¬ 65007 < x) ∨ (¬ x < 65534 ∧ ¬ 65535 < x)) := by
  constructor
  · intro h q; omega
  · intro h; omega
theorem own_rel32 (x : Int32) : ((¬ x < 65 ∧ ¬ 90 < x) ∨ (¬ x < 97 ∧ ¬ 122 < x) ∨ x = 95 ∨ (¬ x < 192 ∧ ¬ 214 < x) ∨ (¬ x < 216 ∧ ¬ 246 < x) ∨ (¬ x < 248 ∧ ¬ 767 < x) ∨ (¬ x < 880 ∧ ¬ 893 < x) ∨ (¬ x < 895 ∧ ¬ 8191 < x) ∨ (¬ x < 8204 ∧ ¬ 8205 < x) ∨ (¬ x < 8304 ∧ ¬ 8591 < x) ∨ (¬ x < 11264 ∧ ¬ 12271 < x) ∨ (¬ x < 12289 ∧ ¬ 55295 < x) ∨ (¬ x < 63744 ∧ ¬ 64975 < x) ∨ (¬ x < 65008 ∧ ¬ 65533 < x) ∨ (¬ x < 65536 ∧ ¬ 983039 < x)) ↔ ¬ (x < 65 ∨ 983039 < x ∨ (¬ x < 91 ∧ ¬ 94 < x) ∨ x = 96 ∨ (¬ x < 123 ∧ ¬ 191 < x) ∨ (x = 215 ∨ x = 247) ∨ (¬ x < 768 ∧ ¬ 879 < x) ∨ x = 894 ∨ (¬ x < 8192 ∧ ¬ 8203 < x) ∨ (¬ x < 8206 ∧ ¬ 8303 < x) ∨ (¬ x < 8592 ∧ ¬ 11263 < x) ∨ (¬ x < 12272 ∧ ¬ 12288 < x) ∨ (¬ x < 55296 ∧ ¬ 63743 < x) ∨ (¬ x < 64976 ∧ ¬ 65007 < x) ∨ (¬ x < 65534 ∧ ¬ 65535 < x)) := by
  simp only [Int32.lt_iff_toInt_lt, ← Int32.toInt_inj]
  exact own_rel x.toInt
def own_nsc (x : Int32) : Int32 := if (¬ x < 65 ∧ ¬ 90 < x) ∨ (¬ x < 97 ∧ ¬ 122 < x) ∨ x = 95 ∨ (¬ x < 192 ∧ ¬ 214 < x) ∨ (¬ x < 216 ∧ ¬ 246 < x) ∨ (¬ x < 248 ∧ ¬ 767 < x) ∨ (¬ x < 880 ∧ ¬ 893 < x) ∨ (¬ x < 895 ∧ ¬ 8191 < x) ∨ (¬ x < 8204 ∧ ¬ 8205 < x) ∨ (¬ x < 8304 ∧ ¬ 8591 < x) ∨ (¬ x < 11264 ∧ ¬ 12271 < x) ∨ (¬ x < 12289 ∧ ¬ 55295 < x) ∨ (¬ x < 63744 ∧ ¬ 64975 < x) ∨ (¬ x < 65008 ∧ ¬ 65533 < x) ∨ (¬ x < 65536 ∧ ¬ 983039 < x) then 1 else 0
theorem own_nsc1 {x : Int32} (h : (¬ x < 65 ∧ ¬ 90 < x) ∨ (¬ x < 97 ∧ ¬ 122 < x) ∨ x = 95 ∨ (¬ x < 192 ∧ ¬ 214 < x) ∨ (¬ x < 216 ∧ ¬ 246 < x) ∨ (¬ x < 248 ∧ ¬ 767 < x) ∨ (¬ x < 880 ∧ ¬ 893 < x) ∨ (¬ x < 895 ∧ ¬ 8191 < x) ∨ (¬ x < 8204 ∧ ¬ 8205 < x) ∨ (¬ x < 8304 ∧ ¬ 8591 < x) ∨ (¬ x < 11264 ∧ ¬ 12271 < x) ∨ (¬ x < 12289 ∧ ¬ 55295 < x) ∨ (¬ x < 63744 ∧ ¬ 64975 < x) ∨ (¬ x < 65008 ∧ ¬ 65533 < x) ∨ (¬ x < 65536 ∧ ¬ 983039 < x)) : nar .boolean 1 = own_nsc x := Eq.symm (if_pos h)
theorem own_nsc0 {x : Int32} (h : ¬ ((¬ x < 65 ∧ ¬ 90 < x) ∨ (¬ x < 97 ∧ ¬ 122 < x) ∨ x = 95 ∨ (¬ x < 192 ∧ ¬ 214 < x) ∨ (¬ x < 216 ∧ ¬ 246 < x) ∨ (¬ x < 248 ∧ ¬ 767 < x) ∨ (¬ x < 880 ∧ ¬ 893 < x) ∨ (¬ x < 895 ∧ ¬ 8191 < x) ∨ (¬ x < 8204 ∧ ¬ 8205 < x) ∨ (¬ x < 8304 ∧ ¬ 8591 < x) ∨ (¬ x < 11264 ∧ ¬ 12271 < x) ∨ (¬ x < 12289 ∧ ¬ 55295 < x) ∨ (¬ x < 63744 ∧ ¬ 64975 < x) ∨ (¬ x < 65008 ∧ ¬ 65533 < x) ∨ (¬ x < 65536 ∧ ¬ 983039 < x))) : nar .boolean 0 = own_nsc x := Eq.symm (if_neg h)
def own_out (x : Int32) : Int32 := if x < 65 ∨ 983039 < x ∨ (¬ x < 91 ∧ ¬ 94 < x) ∨ x = 96 ∨ (¬ x < 123 ∧ ¬ 191 < x) ∨ (x = 215 ∨ x = 247) ∨ (¬ x < 768 ∧ ¬ 879 < x) ∨ x = 894 ∨ (¬ x < 8192 ∧ ¬ 8203 < x) ∨ (¬ x < 8206 ∧ ¬ 8303 < x) ∨ (¬ x < 8592 ∧ ¬ 11263 < x) ∨ (¬ x < 12272 ∧ ¬ 12288 < x) ∨ (¬ x < 55296 ∧ ¬ 63743 < x) ∨ (¬ x < 64976 ∧ ¬ 65007 < x) ∨ (¬ x < 65534 ∧ ¬ 65535 < x) then 1 else 0
theorem own_out1 {x : Int32} (h : x < 65 ∨ 983039 < x ∨ (¬ x < 91 ∧ ¬ 94 < x) ∨ x = 96 ∨ (¬ x < 123 ∧ ¬ 191 < x) ∨ (x = 215 ∨ x = 247) ∨ (¬ x < 768 ∧ ¬ 879 < x) ∨ x = 894 ∨ (¬ x < 8192 ∧ ¬ 8203 < x) ∨ (¬ x < 8206 ∧ ¬ 8303 < x) ∨ (¬ x < 8592 ∧ ¬ 11263 < x) ∨ (¬ x < 12272 ∧ ¬ 12288 < x) ∨ (¬ x < 55296 ∧ ¬ 63743 < x) ∨ (¬ x < 64976 ∧ ¬ 65007 < x) ∨ (¬ x < 65534 ∧ ¬ 65535 < x)) : nar .boolean 1 = own_out x := Eq.symm (if_pos h)
theorem own_out0 {x : Int32} (h : ¬ (x < 65 ∨ 983039 < x ∨ (¬ x < 91 ∧ ¬ 94 < x) ∨ x = 96 ∨ (¬ x < 123 ∧ ¬ 191 < x) ∨ (x = 215 ∨ x = 247) ∨ (¬ x < 768 ∧ ¬ 879 < x) ∨ x = 894 ∨ (¬ x < 8192 ∧ ¬ 8203 < x) ∨ (¬ x < 8206 ∧ ¬ 8303 < x) ∨ (¬ x < 8592 ∧ ¬ 11263 < x) ∨ (¬ x < 12272 ∧ ¬ 12288 < x) ∨ (¬ x < 55296 ∧ ¬ 63743 < x) ∨ (¬ x < 64976 ∧ ¬ 65007 < x) ∨ (¬ x < 65534 ∧ ¬ 65535 < x))) : nar .boolean 0 = own_out x := Eq.symm (if_neg h)
theorem own_k0 {x : Int32} (h : own_out x = 0) : own_nsc x = 1 := by
  refine if_pos ((own_rel32 x).mpr fun q => ?_)
  have e : own_out x = 1 := if_pos q
  rw [e] at h; exact absurd h (by decide)
theorem own_k1 {x : Int32} (h : ¬ own_out x = 0) : own_nsc x = 0 := by
  refine if_neg fun q => h (if_neg ((own_rel32 x).mp q))
theorem own_some {vs : List Int32} {j : Int32} (h1 : ¬ j < 0) (h2 : j.toNatClampNeg < vs.length) : ∃ w, OAt vs j w := ⟨vs[j.toNatClampNeg], h1, List.getElem?_eq_getElem h2⟩
theorem own_pn0 : plainName "org/surnia/datatypes/NameCharacters" = true := by first | (simp [plainName, overriddenIn]; done) | decide +kernel
theorem ef_own_mnsc (m : MethodId) (x0 : Int32) : entryFrame m #[(.int x0)] 1 = mkF m 0 #[.val (.int x0)] [] := by first | (simp [entryFrame, mkF, argsToLocals, Value.category]; done) | rfl
theorem d1_0 : decode prog_7_method_2_code 0 = .ok (.iload_n 0, 1) := by decide +kernel
theorem d1_1 : decode prog_7_method_2_code 1 = .ok (.bipush 65, 2) := by decide +kernel
theorem d1_3 : decode prog_7_method_2_code 3 = .ok (.if_icmp .lt 9, 3) := by decide +kernel
theorem d1_6 : decode prog_7_method_2_code 6 = .ok (.iload_n 0, 1) := by decide +kernel
theorem d1_7 : decode prog_7_method_2_code 7 = .ok (.bipush 90, 2) := by decide +kernel
theorem d1_9 : decode prog_7_method_2_code 9 = .ok (.if_icmp .le 182, 3) := by decide +kernel
theorem d1_12 : decode prog_7_method_2_code 12 = .ok (.iload_n 0, 1) := by decide +kernel
theorem d1_13 : decode prog_7_method_2_code 13 = .ok (.bipush 97, 2) := by decide +kernel
theorem d1_15 : decode prog_7_method_2_code 15 = .ok (.if_icmp .lt 9, 3) := by decide +kernel
theorem d1_18 : decode prog_7_method_2_code 18 = .ok (.iload_n 0, 1) := by decide +kernel
theorem d1_19 : decode prog_7_method_2_code 19 = .ok (.bipush 122, 2) := by decide +kernel
theorem d1_21 : decode prog_7_method_2_code 21 = .ok (.if_icmp .le 170, 3) := by decide +kernel
theorem d1_24 : decode prog_7_method_2_code 24 = .ok (.iload_n 0, 1) := by decide +kernel
theorem d1_25 : decode prog_7_method_2_code 25 = .ok (.bipush 95, 2) := by decide +kernel
theorem d1_27 : decode prog_7_method_2_code 27 = .ok (.if_icmp .eq 164, 3) := by decide +kernel
theorem d1_30 : decode prog_7_method_2_code 30 = .ok (.iload_n 0, 1) := by decide +kernel
theorem d1_31 : decode prog_7_method_2_code 31 = .ok (.sipush 192, 3) := by decide +kernel
theorem d1_34 : decode prog_7_method_2_code 34 = .ok (.if_icmp .lt 10, 3) := by decide +kernel
theorem d1_37 : decode prog_7_method_2_code 37 = .ok (.iload_n 0, 1) := by decide +kernel
theorem d1_38 : decode prog_7_method_2_code 38 = .ok (.sipush 214, 3) := by decide +kernel
theorem d1_41 : decode prog_7_method_2_code 41 = .ok (.if_icmp .le 150, 3) := by decide +kernel
theorem d1_44 : decode prog_7_method_2_code 44 = .ok (.iload_n 0, 1) := by decide +kernel
theorem d1_45 : decode prog_7_method_2_code 45 = .ok (.sipush 216, 3) := by decide +kernel
theorem d1_48 : decode prog_7_method_2_code 48 = .ok (.if_icmp .lt 10, 3) := by decide +kernel
theorem d1_51 : decode prog_7_method_2_code 51 = .ok (.iload_n 0, 1) := by decide +kernel
theorem d1_52 : decode prog_7_method_2_code 52 = .ok (.sipush 246, 3) := by decide +kernel
theorem d1_55 : decode prog_7_method_2_code 55 = .ok (.if_icmp .le 136, 3) := by decide +kernel
theorem d1_58 : decode prog_7_method_2_code 58 = .ok (.iload_n 0, 1) := by decide +kernel
theorem d1_59 : decode prog_7_method_2_code 59 = .ok (.sipush 248, 3) := by decide +kernel
theorem d1_62 : decode prog_7_method_2_code 62 = .ok (.if_icmp .lt 10, 3) := by decide +kernel
theorem d1_65 : decode prog_7_method_2_code 65 = .ok (.iload_n 0, 1) := by decide +kernel
theorem d1_66 : decode prog_7_method_2_code 66 = .ok (.sipush 767, 3) := by decide +kernel
theorem d1_69 : decode prog_7_method_2_code 69 = .ok (.if_icmp .le 122, 3) := by decide +kernel
theorem d1_72 : decode prog_7_method_2_code 72 = .ok (.iload_n 0, 1) := by decide +kernel
theorem d1_73 : decode prog_7_method_2_code 73 = .ok (.sipush 880, 3) := by decide +kernel
theorem d1_76 : decode prog_7_method_2_code 76 = .ok (.if_icmp .lt 10, 3) := by decide +kernel
theorem d1_79 : decode prog_7_method_2_code 79 = .ok (.iload_n 0, 1) := by decide +kernel
theorem d1_80 : decode prog_7_method_2_code 80 = .ok (.sipush 893, 3) := by decide +kernel
theorem d1_83 : decode prog_7_method_2_code 83 = .ok (.if_icmp .le 108, 3) := by decide +kernel
theorem d1_86 : decode prog_7_method_2_code 86 = .ok (.iload_n 0, 1) := by decide +kernel
theorem d1_87 : decode prog_7_method_2_code 87 = .ok (.sipush 895, 3) := by decide +kernel
theorem d1_90 : decode prog_7_method_2_code 90 = .ok (.if_icmp .lt 10, 3) := by decide +kernel
theorem d1_93 : decode prog_7_method_2_code 93 = .ok (.iload_n 0, 1) := by decide +kernel
theorem d1_94 : decode prog_7_method_2_code 94 = .ok (.sipush 8191, 3) := by decide +kernel
theorem d1_97 : decode prog_7_method_2_code 97 = .ok (.if_icmp .le 94, 3) := by decide +kernel
theorem d1_100 : decode prog_7_method_2_code 100 = .ok (.iload_n 0, 1) := by decide +kernel
theorem d1_101 : decode prog_7_method_2_code 101 = .ok (.sipush 8204, 3) := by decide +kernel
theorem d1_104 : decode prog_7_method_2_code 104 = .ok (.if_icmp .lt 10, 3) := by decide +kernel
theorem d1_107 : decode prog_7_method_2_code 107 = .ok (.iload_n 0, 1) := by decide +kernel
theorem d1_108 : decode prog_7_method_2_code 108 = .ok (.sipush 8205, 3) := by decide +kernel
theorem d1_111 : decode prog_7_method_2_code 111 = .ok (.if_icmp .le 80, 3) := by decide +kernel
theorem d1_114 : decode prog_7_method_2_code 114 = .ok (.iload_n 0, 1) := by decide +kernel
theorem d1_115 : decode prog_7_method_2_code 115 = .ok (.sipush 8304, 3) := by decide +kernel
theorem d1_118 : decode prog_7_method_2_code 118 = .ok (.if_icmp .lt 10, 3) := by decide +kernel
theorem d1_121 : decode prog_7_method_2_code 121 = .ok (.iload_n 0, 1) := by decide +kernel
theorem d1_122 : decode prog_7_method_2_code 122 = .ok (.sipush 8591, 3) := by decide +kernel
theorem d1_125 : decode prog_7_method_2_code 125 = .ok (.if_icmp .le 66, 3) := by decide +kernel
theorem d1_128 : decode prog_7_method_2_code 128 = .ok (.iload_n 0, 1) := by decide +kernel
theorem d1_129 : decode prog_7_method_2_code 129 = .ok (.sipush 11264, 3) := by decide +kernel
theorem d1_132 : decode prog_7_method_2_code 132 = .ok (.if_icmp .lt 10, 3) := by decide +kernel
theorem d1_135 : decode prog_7_method_2_code 135 = .ok (.iload_n 0, 1) := by decide +kernel
theorem d1_136 : decode prog_7_method_2_code 136 = .ok (.sipush 12271, 3) := by decide +kernel
theorem d1_139 : decode prog_7_method_2_code 139 = .ok (.if_icmp .le 52, 3) := by decide +kernel
theorem d1_142 : decode prog_7_method_2_code 142 = .ok (.iload_n 0, 1) := by decide +kernel
theorem d1_143 : decode prog_7_method_2_code 143 = .ok (.sipush 12289, 3) := by decide +kernel
theorem d1_146 : decode prog_7_method_2_code 146 = .ok (.if_icmp .lt 9, 3) := by decide +kernel
theorem d1_149 : decode prog_7_method_2_code 149 = .ok (.iload_n 0, 1) := by decide +kernel
theorem d1_150 : decode prog_7_method_2_code 150 = .ok (.ldc 7, 2) := by decide +kernel
theorem d1_152 : decode prog_7_method_2_code 152 = .ok (.if_icmp .le 39, 3) := by decide +kernel
theorem d1_155 : decode prog_7_method_2_code 155 = .ok (.iload_n 0, 1) := by decide +kernel
theorem d1_156 : decode prog_7_method_2_code 156 = .ok (.ldc 8, 2) := by decide +kernel
theorem d1_158 : decode prog_7_method_2_code 158 = .ok (.if_icmp .lt 9, 3) := by decide +kernel
theorem d1_161 : decode prog_7_method_2_code 161 = .ok (.iload_n 0, 1) := by decide +kernel
theorem d1_162 : decode prog_7_method_2_code 162 = .ok (.ldc 9, 2) := by decide +kernel
theorem d1_164 : decode prog_7_method_2_code 164 = .ok (.if_icmp .le 27, 3) := by decide +kernel
theorem d1_167 : decode prog_7_method_2_code 167 = .ok (.iload_n 0, 1) := by decide +kernel
theorem d1_168 : decode prog_7_method_2_code 168 = .ok (.ldc 10, 2) := by decide +kernel
theorem d1_170 : decode prog_7_method_2_code 170 = .ok (.if_icmp .lt 9, 3) := by decide +kernel
theorem d1_173 : decode prog_7_method_2_code 173 = .ok (.iload_n 0, 1) := by decide +kernel
theorem d1_174 : decode prog_7_method_2_code 174 = .ok (.ldc 11, 2) := by decide +kernel
theorem d1_176 : decode prog_7_method_2_code 176 = .ok (.if_icmp .le 15, 3) := by decide +kernel
theorem d1_179 : decode prog_7_method_2_code 179 = .ok (.iload_n 0, 1) := by decide +kernel
theorem d1_180 : decode prog_7_method_2_code 180 = .ok (.ldc 12, 2) := by decide +kernel
theorem d1_182 : decode prog_7_method_2_code 182 = .ok (.if_icmp .lt 13, 3) := by decide +kernel
theorem d1_185 : decode prog_7_method_2_code 185 = .ok (.iload_n 0, 1) := by decide +kernel
theorem d1_186 : decode prog_7_method_2_code 186 = .ok (.ldc 13, 2) := by decide +kernel
theorem d1_188 : decode prog_7_method_2_code 188 = .ok (.if_icmp .gt 7, 3) := by decide +kernel
theorem d1_191 : decode prog_7_method_2_code 191 = .ok (.iconst 1, 1) := by decide +kernel
theorem d1_192 : decode prog_7_method_2_code 192 = .ok (.goto 4, 3) := by decide +kernel
theorem d1_195 : decode prog_7_method_2_code 195 = .ok (.iconst 0, 1) := by decide +kernel
theorem d1_196 : decode prog_7_method_2_code 196 = .ok (.ireturn, 1) := by decide +kernel
set_option maxRecDepth 65536 in
set_option maxHeartbeats 40000000 in
theorem own_mnsc (l : Launch) (Z : State) (a0 : Array Value) (hw : ∀ d ∈ tables_1, d.before a0 Z = true) (ws : List Jvm.Cond) (vx : Int32) (h0 : Heap) (n0 : Nat) (Z0 : n0 ≤ h0.size)  :
    MetFree l (⟨"org/surnia/datatypes/NameCharacters", "isNameStartChar", "(I)Z"⟩ : MethodName) (head1 (Jvm.Cond.code (⟨"org/surnia/datatypes/NameCharacters", "isNameStartChar", "(I)Z"⟩ : MethodName) prog_7_method_2_code 1 (some .boolean) :: ws) ({ frames := 0, cells := 0, slots := 0, locals := 0 } : Room)) (fun a U => a = #[(.int vx)] ∧ Z.Warmed39 U.vm ∧ U.heap = h0) (fun _ _ _ _ _ => True) (fun _ U o U' => ∃ v L, o = .returned v ∧ (OPure n0 h0 (some (.int (own_nsc vx)))) v U'.heap L ∧ FrameEnd U o U' L ({ frames := 0, cells := 0, slots := 0, locals := 0 } : Room).cells ({ frames := 0, cells := 0, slots := 0, locals := 0 } : Room).slots) := by
  refine MetFree.of_bodySF (plainFor_of_name own_pn0) hisR ?_
  intro p e s m args below meth c s₁ Bd hml0 hP hK
  obtain ⟨rfl, hZ, hh⟩ := hP
  have hx := Bd.exec
  have hby := Bd.bytes
  have hret := Bd.returns
  have hlk : meth.locks = false := Bd.notSynchronized
  have hml : c.maxLocals = 1 := hml0
  have hown : s.vm.findClass "org/surnia/datatypes/NameCharacters" = some m.cls := findClass_of_methodNamed Bd.named
  have hnm := (name_of_methodNamed Bd.named Bd.method).1
  have X0 : Stand p l e ({ frames := 0, cells := 0, slots := 0, locals := 0 } : Room) s m #[(.int vx)] below meth c s₁ [] 0 0 := Stand.of_body Bd
  have e0 : s₁.heap = h0 := by rw [← hh, Bd.state]; rfl
  have N0 := Fr.nil n0
  have pre0 : ∀ t, Steps p.tables e below (s₁.setTop (mkF m 0 #[.val (.int vx)] [])) t → Steps p.tables e below (s₁.setTop (entryFrame m #[(.int vx)] 1)) t := fun t k => castTop (ef_own_mnsc m vx) k
  show OGo p e below s (OPure n0 h0 (some (.int (own_nsc vx)))) ({ frames := 0, cells := 0, slots := 0, locals := 0 } : Room).cells ({ frames := 0, cells := 0, slots := 0, locals := 0 } : Room).slots (s₁.setTop (entryFrame m #[(.int vx)] 1))
  refine OGo.on pre0 ?_
  show OGo p e below s _ _ _ (s₁.setTop (mkF m 0 #[.val (.int vx)] []))
  have J0 : ¬ ((¬ vx < 65 ∧ ¬ 90 < vx)) → OGo p e below s (OPure n0 h0 (some (.int (own_nsc vx)))) ({ frames := 0, cells := 0, slots := 0, locals := 0 } : Room).cells ({ frames := 0, cells := 0, slots := 0, locals := 0 } : Room).slots (s₁.setTop (mkF m 12 #[.val (.int vx)] [])) := by
    intro hn1_0
    show OGo p e below s _ _ _ (s₁.setTop (mkF m 12 #[.val (.int vx)] []))
    have J1 : ¬ ((¬ vx < 97 ∧ ¬ 122 < vx)) → OGo p e below s (OPure n0 h0 (some (.int (own_nsc vx)))) ({ frames := 0, cells := 0, slots := 0, locals := 0 } : Room).cells ({ frames := 0, cells := 0, slots := 0, locals := 0 } : Room).slots (s₁.setTop (mkF m 24 #[.val (.int vx)] [])) := by
      intro hn1_1
      show OGo p e below s _ _ _ (s₁.setTop (mkF m 24 #[.val (.int vx)] []))
      have J2 : ¬ (vx = 95) → OGo p e below s (OPure n0 h0 (some (.int (own_nsc vx)))) ({ frames := 0, cells := 0, slots := 0, locals := 0 } : Room).cells ({ frames := 0, cells := 0, slots := 0, locals := 0 } : Room).slots (s₁.setTop (mkF m 30 #[.val (.int vx)] [])) := by
        intro hn1_2
        show OGo p e below s _ _ _ (s₁.setTop (mkF m 30 #[.val (.int vx)] []))
        have J3 : ¬ ((¬ vx < 192 ∧ ¬ 214 < vx)) → OGo p e below s (OPure n0 h0 (some (.int (own_nsc vx)))) ({ frames := 0, cells := 0, slots := 0, locals := 0 } : Room).cells ({ frames := 0, cells := 0, slots := 0, locals := 0 } : Room).slots (s₁.setTop (mkF m 44 #[.val (.int vx)] [])) := by
          intro hn1_3
          show OGo p e below s _ _ _ (s₁.setTop (mkF m 44 #[.val (.int vx)] []))
          have J4 : ¬ ((¬ vx < 216 ∧ ¬ 246 < vx)) → OGo p e below s (OPure n0 h0 (some (.int (own_nsc vx)))) ({ frames := 0, cells := 0, slots := 0, locals := 0 } : Room).cells ({ frames := 0, cells := 0, slots := 0, locals := 0 } : Room).slots (s₁.setTop (mkF m 58 #[.val (.int vx)] [])) := by
            intro hn1_4
            show OGo p e below s _ _ _ (s₁.setTop (mkF m 58 #[.val (.int vx)] []))
            have J5 : ¬ ((¬ vx < 248 ∧ ¬ 767 < vx)) → OGo p e below s (OPure n0 h0 (some (.int (own_nsc vx)))) ({ frames := 0, cells := 0, slots := 0, locals := 0 } : Room).cells ({ frames := 0, cells := 0, slots := 0, locals := 0 } : Room).slots (s₁.setTop (mkF m 72 #[.val (.int vx)] [])) := by
              intro hn1_5
              show OGo p e below s _ _ _ (s₁.setTop (mkF m 72 #[.val (.int vx)] []))
              have J6 : ¬ ((¬ vx < 880 ∧ ¬ 893 < vx)) → OGo p e below s (OPure n0 h0 (some (.int (own_nsc vx)))) ({ frames := 0, cells := 0, slots := 0, locals := 0 } : Room).cells ({ frames := 0, cells := 0, slots := 0, locals := 0 } : Room).slots (s₁.setTop (mkF m 86 #[.val (.int vx)] [])) := by
                intro hn1_6
                show OGo p e below s _ _ _ (s₁.setTop (mkF m 86 #[.val (.int vx)] []))
                have J7 : ¬ ((¬ vx < 895 ∧ ¬ 8191 < vx)) → OGo p e below s (OPure n0 h0 (some (.int (own_nsc vx)))) ({ frames := 0, cells := 0, slots := 0, locals := 0 } : Room).cells ({ frames := 0, cells := 0, slots := 0, locals := 0 } : Room).slots (s₁.setTop (mkF m 100 #[.val (.int vx)] [])) := by
                  intro hn1_7
                  show OGo p e below s _ _ _ (s₁.setTop (mkF m 100 #[.val (.int vx)] []))
                  have J8 : ¬ ((¬ vx < 8204 ∧ ¬ 8205 < vx)) → OGo p e below s (OPure n0 h0 (some (.int (own_nsc vx)))) ({ frames := 0, cells := 0, slots := 0, locals := 0 } : Room).cells ({ frames := 0, cells := 0, slots := 0, locals := 0 } : Room).slots (s₁.setTop (mkF m 114 #[.val (.int vx)] [])) := by
                    intro hn1_8
                    show OGo p e below s _ _ _ (s₁.setTop (mkF m 114 #[.val (.int vx)] []))
                    have J9 : ¬ ((¬ vx < 8304 ∧ ¬ 8591 < vx)) → OGo p e below s (OPure n0 h0 (some (.int (own_nsc vx)))) ({ frames := 0, cells := 0, slots := 0, locals := 0 } : Room).cells ({ frames := 0, cells := 0, slots := 0, locals := 0 } : Room).slots (s₁.setTop (mkF m 128 #[.val (.int vx)] [])) := by
                      intro hn1_9
                      show OGo p e below s _ _ _ (s₁.setTop (mkF m 128 #[.val (.int vx)] []))
                      have J10 : ¬ ((¬ vx < 11264 ∧ ¬ 12271 < vx)) → OGo p e below s (OPure n0 h0 (some (.int (own_nsc vx)))) ({ frames := 0, cells := 0, slots := 0, locals := 0 } : Room).cells ({ frames := 0, cells := 0, slots := 0, locals := 0 } : Room).slots (s₁.setTop (mkF m 142 #[.val (.int vx)] [])) := by
                        intro hn1_10
                        show OGo p e below s _ _ _ (s₁.setTop (mkF m 142 #[.val (.int vx)] []))
                        have J11 : ¬ ((¬ vx < 12289 ∧ ¬ 55295 < vx)) → OGo p e below s (OPure n0 h0 (some (.int (own_nsc vx)))) ({ frames := 0, cells := 0, slots := 0, locals := 0 } : Room).cells ({ frames := 0, cells := 0, slots := 0, locals := 0 } : Room).slots (s₁.setTop (mkF m 155 #[.val (.int vx)] [])) := by
                          intro hn1_11
                          show OGo p e below s _ _ _ (s₁.setTop (mkF m 155 #[.val (.int vx)] []))
                          have J12 : ¬ ((¬ vx < 63744 ∧ ¬ 64975 < vx)) → OGo p e below s (OPure n0 h0 (some (.int (own_nsc vx)))) ({ frames := 0, cells := 0, slots := 0, locals := 0 } : Room).cells ({ frames := 0, cells := 0, slots := 0, locals := 0 } : Room).slots (s₁.setTop (mkF m 167 #[.val (.int vx)] [])) := by
                            intro hn1_12
                            show OGo p e below s _ _ _ (s₁.setTop (mkF m 167 #[.val (.int vx)] []))
                            have J13 : ¬ ((¬ vx < 65008 ∧ ¬ 65533 < vx)) → OGo p e below s (OPure n0 h0 (some (.int (own_nsc vx)))) ({ frames := 0, cells := 0, slots := 0, locals := 0 } : Room).cells ({ frames := 0, cells := 0, slots := 0, locals := 0 } : Room).slots (s₁.setTop (mkF m 179 #[.val (.int vx)] [])) := by
                              intro hn1_13
                              show OGo p e below s _ _ _ (s₁.setTop (mkF m 179 #[.val (.int vx)] []))
                              refine OGo.on (fun t k => XS.iloadN X0.here hx rfl (hb hby d1_179) rfl k) ?_
                              show OGo p e below s _ _ _ (s₁.setTop (mkF m 180 #[.val (.int vx)] [(.int vx)]))
                              refine OGo.on (fun t k => X0.ldcI hx hown (mvT hZ (hw _ (List.mem_of_getElem? (i := 16) rfl))) (g := (mkF m 180 #[.val (.int vx)] [(.int vx)])) rfl (hb hby d1_180) k) ?_
                              show OGo p e below s _ _ _ (s₁.setTop (mkF m 182 #[.val (.int vx)] [(.int (65536 : Int32)), (.int vx)]))
                              by_cases hc1 : vx < (65536 : Int32)
                              · refine OGo.on (fun t k => XS.icmpYes X0.here hx rfl (pc0 := 182) (pc' := 195) rfl (hb hby d1_182) rfl (tlt hc1).1 (by decide) (by decide) k) ?_
                                show OGo p e below s _ _ _ (s₁.setTop (mkF m 195 #[.val (.int vx)] []))
                                refine OGo.on (fun t k => XS.iconst X0.here hx rfl (hb hby d1_195) k) ?_
                                show OGo p e below s _ _ _ (s₁.setTop (mkF m 196 #[.val (.int vx)] [(.int (0 : Int32))]))
                                exact OGo.retN X0 hx (t := .boolean) hret hlk (by simp) (hb hby d1_196) (opI (own_nsc0 (fun q => q.elim hn1_0 (fun q => q.elim hn1_1 (fun q => q.elim hn1_2 (fun q => q.elim hn1_3 (fun q => q.elim hn1_4 (fun q => q.elim hn1_5 (fun q => q.elim hn1_6 (fun q => q.elim hn1_7 (fun q => q.elim hn1_8 (fun q => q.elim hn1_9 (fun q => q.elim hn1_10 (fun q => q.elim hn1_11 (fun q => q.elim hn1_12 (fun q => q.elim hn1_13 (fun q => q.1 hc1)))))))))))))))) N0 e0) (by decide) (by decide)
                              · refine OGo.on (fun t k => XS.icmpNo X0.here hx rfl (hb hby d1_182) rfl (flt hc1).1 k) ?_
                                show OGo p e below s _ _ _ (s₁.setTop (mkF m 185 #[.val (.int vx)] []))
                                refine OGo.on (fun t k => XS.iloadN X0.here hx rfl (hb hby d1_185) rfl k) ?_
                                show OGo p e below s _ _ _ (s₁.setTop (mkF m 186 #[.val (.int vx)] [(.int vx)]))
                                refine OGo.on (fun t k => X0.ldcI hx hown (mvT hZ (hw _ (List.mem_of_getElem? (i := 24) rfl))) (g := (mkF m 186 #[.val (.int vx)] [(.int vx)])) rfl (hb hby d1_186) k) ?_
                                show OGo p e below s _ _ _ (s₁.setTop (mkF m 188 #[.val (.int vx)] [(.int (983039 : Int32)), (.int vx)]))
                                by_cases hc2 : (983039 : Int32) < vx
                                · refine OGo.on (fun t k => XS.icmpYes X0.here hx rfl (pc0 := 188) (pc' := 195) rfl (hb hby d1_188) rfl (tlt hc2).2.2.1 (by decide) (by decide) k) ?_
                                  show OGo p e below s _ _ _ (s₁.setTop (mkF m 195 #[.val (.int vx)] []))
                                  refine OGo.on (fun t k => XS.iconst X0.here hx rfl (hb hby d1_195) k) ?_
                                  show OGo p e below s _ _ _ (s₁.setTop (mkF m 196 #[.val (.int vx)] [(.int (0 : Int32))]))
                                  exact OGo.retN X0 hx (t := .boolean) hret hlk (by simp) (hb hby d1_196) (opI (own_nsc0 (fun q => q.elim hn1_0 (fun q => q.elim hn1_1 (fun q => q.elim hn1_2 (fun q => q.elim hn1_3 (fun q => q.elim hn1_4 (fun q => q.elim hn1_5 (fun q => q.elim hn1_6 (fun q => q.elim hn1_7 (fun q => q.elim hn1_8 (fun q => q.elim hn1_9 (fun q => q.elim hn1_10 (fun q => q.elim hn1_11 (fun q => q.elim hn1_12 (fun q => q.elim hn1_13 (fun q => q.2 hc2)))))))))))))))) N0 e0) (by decide) (by decide)
                                · refine OGo.on (fun t k => XS.icmpNo X0.here hx rfl (hb hby d1_188) rfl (flt hc2).2.2.1 k) ?_
                                  show OGo p e below s _ _ _ (s₁.setTop (mkF m 191 #[.val (.int vx)] []))
                                  refine OGo.on (fun t k => XS.iconst X0.here hx rfl (hb hby d1_191) k) ?_
                                  show OGo p e below s _ _ _ (s₁.setTop (mkF m 192 #[.val (.int vx)] [(.int (1 : Int32))]))
                                  refine OGo.on (fun t k => XS.goto X0.here hx rfl (pc0 := 192) (pc' := 196) rfl (hb hby d1_192) (by decide) (by decide) k) ?_
                                  show OGo p e below s _ _ _ (s₁.setTop (mkF m 196 #[.val (.int vx)] [(.int (1 : Int32))]))
                                  exact OGo.retN X0 hx (t := .boolean) hret hlk (by simp) (hb hby d1_196) (opI (own_nsc1 (Or.inr (Or.inr (Or.inr (Or.inr (Or.inr (Or.inr (Or.inr (Or.inr (Or.inr (Or.inr (Or.inr (Or.inr (Or.inr (Or.inr ⟨hc1, hc2⟩))))))))))))))) N0 e0) (by decide) (by decide)
                            refine OGo.on (fun t k => XS.iloadN X0.here hx rfl (hb hby d1_167) rfl k) ?_
                            show OGo p e below s _ _ _ (s₁.setTop (mkF m 168 #[.val (.int vx)] [(.int vx)]))
                            refine OGo.on (fun t k => X0.ldcI hx hown (mvT hZ (hw _ (List.mem_of_getElem? (i := 15) rfl))) (g := (mkF m 168 #[.val (.int vx)] [(.int vx)])) rfl (hb hby d1_168) k) ?_
                            show OGo p e below s _ _ _ (s₁.setTop (mkF m 170 #[.val (.int vx)] [(.int (65008 : Int32)), (.int vx)]))
                            by_cases hc3 : vx < (65008 : Int32)
                            · refine OGo.on (fun t k => XS.icmpYes X0.here hx rfl (pc0 := 170) (pc' := 179) rfl (hb hby d1_170) rfl (tlt hc3).1 (by decide) (by decide) k) ?_
                              show OGo p e below s _ _ _ (s₁.setTop (mkF m 179 #[.val (.int vx)] []))
                              exact J13 (fun q => q.1 hc3)
                            · refine OGo.on (fun t k => XS.icmpNo X0.here hx rfl (hb hby d1_170) rfl (flt hc3).1 k) ?_
                              show OGo p e below s _ _ _ (s₁.setTop (mkF m 173 #[.val (.int vx)] []))
                              refine OGo.on (fun t k => XS.iloadN X0.here hx rfl (hb hby d1_173) rfl k) ?_
                              show OGo p e below s _ _ _ (s₁.setTop (mkF m 174 #[.val (.int vx)] [(.int vx)]))
                              refine OGo.on (fun t k => X0.ldcI hx hown (mvT hZ (hw _ (List.mem_of_getElem? (i := 23) rfl))) (g := (mkF m 174 #[.val (.int vx)] [(.int vx)])) rfl (hb hby d1_174) k) ?_
                              show OGo p e below s _ _ _ (s₁.setTop (mkF m 176 #[.val (.int vx)] [(.int (65533 : Int32)), (.int vx)]))
                              by_cases hc4 : (65533 : Int32) < vx
                              · refine OGo.on (fun t k => XS.icmpNo X0.here hx rfl (hb hby d1_176) rfl (tlt hc4).2.2.2 k) ?_
                                show OGo p e below s _ _ _ (s₁.setTop (mkF m 179 #[.val (.int vx)] []))
                                exact J13 (fun q => q.2 hc4)
                              · refine OGo.on (fun t k => XS.icmpYes X0.here hx rfl (pc0 := 176) (pc' := 191) rfl (hb hby d1_176) rfl (flt hc4).2.2.2 (by decide) (by decide) k) ?_
                                show OGo p e below s _ _ _ (s₁.setTop (mkF m 191 #[.val (.int vx)] []))
                                refine OGo.on (fun t k => XS.iconst X0.here hx rfl (hb hby d1_191) k) ?_
                                show OGo p e below s _ _ _ (s₁.setTop (mkF m 192 #[.val (.int vx)] [(.int (1 : Int32))]))
                                refine OGo.on (fun t k => XS.goto X0.here hx rfl (pc0 := 192) (pc' := 196) rfl (hb hby d1_192) (by decide) (by decide) k) ?_
                                show OGo p e below s _ _ _ (s₁.setTop (mkF m 196 #[.val (.int vx)] [(.int (1 : Int32))]))
                                exact OGo.retN X0 hx (t := .boolean) hret hlk (by simp) (hb hby d1_196) (opI (own_nsc1 (Or.inr (Or.inr (Or.inr (Or.inr (Or.inr (Or.inr (Or.inr (Or.inr (Or.inr (Or.inr (Or.inr (Or.inr (Or.inr (Or.inl ⟨hc3, hc4⟩))))))))))))))) N0 e0) (by decide) (by decide)
                          refine OGo.on (fun t k => XS.iloadN X0.here hx rfl (hb hby d1_155) rfl k) ?_
                          show OGo p e below s _ _ _ (s₁.setTop (mkF m 156 #[.val (.int vx)] [(.int vx)]))
                          refine OGo.on (fun t k => X0.ldcI hx hown (mvT hZ (hw _ (List.mem_of_getElem? (i := 14) rfl))) (g := (mkF m 156 #[.val (.int vx)] [(.int vx)])) rfl (hb hby d1_156) k) ?_
                          show OGo p e below s _ _ _ (s₁.setTop (mkF m 158 #[.val (.int vx)] [(.int (63744 : Int32)), (.int vx)]))
                          by_cases hc5 : vx < (63744 : Int32)
                          · refine OGo.on (fun t k => XS.icmpYes X0.here hx rfl (pc0 := 158) (pc' := 167) rfl (hb hby d1_158) rfl (tlt hc5).1 (by decide) (by decide) k) ?_
                            show OGo p e below s _ _ _ (s₁.setTop (mkF m 167 #[.val (.int vx)] []))
                            exact J12 (fun q => q.1 hc5)
                          · refine OGo.on (fun t k => XS.icmpNo X0.here hx rfl (hb hby d1_158) rfl (flt hc5).1 k) ?_
                            show OGo p e below s _ _ _ (s₁.setTop (mkF m 161 #[.val (.int vx)] []))
                            refine OGo.on (fun t k => XS.iloadN X0.here hx rfl (hb hby d1_161) rfl k) ?_
                            show OGo p e below s _ _ _ (s₁.setTop (mkF m 162 #[.val (.int vx)] [(.int vx)]))
                            refine OGo.on (fun t k => X0.ldcI hx hown (mvT hZ (hw _ (List.mem_of_getElem? (i := 22) rfl))) (g := (mkF m 162 #[.val (.int vx)] [(.int vx)])) rfl (hb hby d1_162) k) ?_
                            show OGo p e below s _ _ _ (s₁.setTop (mkF m 164 #[.val (.int vx)] [(.int (64975 : Int32)), (.int vx)]))
                            by_cases hc6 : (64975 : Int32) < vx
                            · refine OGo.on (fun t k => XS.icmpNo X0.here hx rfl (hb hby d1_164) rfl (tlt hc6).2.2.2 k) ?_
                              show OGo p e below s _ _ _ (s₁.setTop (mkF m 167 #[.val (.int vx)] []))
                              exact J12 (fun q => q.2 hc6)
                            · refine OGo.on (fun t k => XS.icmpYes X0.here hx rfl (pc0 := 164) (pc' := 191) rfl (hb hby d1_164) rfl (flt hc6).2.2.2 (by decide) (by decide) k) ?_
                              show OGo p e below s _ _ _ (s₁.setTop (mkF m 191 #[.val (.int vx)] []))
                              refine OGo.on (fun t k => XS.iconst X0.here hx rfl (hb hby d1_191) k) ?_
                              show OGo p e below s _ _ _ (s₁.setTop (mkF m 192 #[.val (.int vx)] [(.int (1 : Int32))]))
                              refine OGo.on (fun t k => XS.goto X0.here hx rfl (pc0 := 192) (pc' := 196) rfl (hb hby d1_192) (by decide) (by decide) k) ?_
                              show OGo p e below s _ _ _ (s₁.setTop (mkF m 196 #[.val (.int vx)] [(.int (1 : Int32))]))
                              exact OGo.retN X0 hx (t := .boolean) hret hlk (by simp) (hb hby d1_196) (opI (own_nsc1 (Or.inr (Or.inr (Or.inr (Or.inr (Or.inr (Or.inr (Or.inr (Or.inr (Or.inr (Or.inr (Or.inr (Or.inr (Or.inl ⟨hc5, hc6⟩)))))))))))))) N0 e0) (by decide) (by decide)
                        refine OGo.on (fun t k => XS.iloadN X0.here hx rfl (hb hby d1_142) rfl k) ?_
                        show OGo p e below s _ _ _ (s₁.setTop (mkF m 143 #[.val (.int vx)] [(.int vx)]))
                        refine OGo.on (fun t k => XS.sipush X0.here hx rfl (hb hby d1_143) k) ?_
                        show OGo p e below s _ _ _ (s₁.setTop (mkF m 146 #[.val (.int vx)] [(.int (12289 : Int32)), (.int vx)]))
                        by_cases hc7 : vx < (12289 : Int32)
                        · refine OGo.on (fun t k => XS.icmpYes X0.here hx rfl (pc0 := 146) (pc' := 155) rfl (hb hby d1_146) rfl (tlt hc7).1 (by decide) (by decide) k) ?_
                          show OGo p e below s _ _ _ (s₁.setTop (mkF m 155 #[.val (.int vx)] []))
                          exact J11 (fun q => q.1 hc7)
                        · refine OGo.on (fun t k => XS.icmpNo X0.here hx rfl (hb hby d1_146) rfl (flt hc7).1 k) ?_
                          show OGo p e below s _ _ _ (s₁.setTop (mkF m 149 #[.val (.int vx)] []))
                          refine OGo.on (fun t k => XS.iloadN X0.here hx rfl (hb hby d1_149) rfl k) ?_
                          show OGo p e below s _ _ _ (s₁.setTop (mkF m 150 #[.val (.int vx)] [(.int vx)]))
                          refine OGo.on (fun t k => X0.ldcI hx hown (mvT hZ (hw _ (List.mem_of_getElem? (i := 21) rfl))) (g := (mkF m 150 #[.val (.int vx)] [(.int vx)])) rfl (hb hby d1_150) k) ?_
                          show OGo p e below s _ _ _ (s₁.setTop (mkF m 152 #[.val (.int vx)] [(.int (55295 : Int32)), (.int vx)]))
                          by_cases hc8 : (55295 : Int32) < vx
                          · refine OGo.on (fun t k => XS.icmpNo X0.here hx rfl (hb hby d1_152) rfl (tlt hc8).2.2.2 k) ?_
                            show OGo p e below s _ _ _ (s₁.setTop (mkF m 155 #[.val (.int vx)] []))
                            exact J11 (fun q => q.2 hc8)
                          · refine OGo.on (fun t k => XS.icmpYes X0.here hx rfl (pc0 := 152) (pc' := 191) rfl (hb hby d1_152) rfl (flt hc8).2.2.2 (by decide) (by decide) k) ?_
                            show OGo p e below s _ _ _ (s₁.setTop (mkF m 191 #[.val (.int vx)] []))
                            refine OGo.on (fun t k => XS.iconst X0.here hx rfl (hb hby d1_191) k) ?_
                            show OGo p e below s _ _ _ (s₁.setTop (mkF m 192 #[.val (.int vx)] [(.int (1 : Int32))]))
                            refine OGo.on (fun t k => XS.goto X0.here hx rfl (pc0 := 192) (pc' := 196) rfl (hb hby d1_192) (by decide) (by decide) k) ?_
                            show OGo p e below s _ _ _ (s₁.setTop (mkF m 196 #[.val (.int vx)] [(.int (1 : Int32))]))
                            exact OGo.retN X0 hx (t := .boolean) hret hlk (by simp) (hb hby d1_196) (opI (own_nsc1 (Or.inr (Or.inr (Or.inr (Or.inr (Or.inr (Or.inr (Or.inr (Or.inr (Or.inr (Or.inr (Or.inr (Or.inl ⟨hc7, hc8⟩))))))))))))) N0 e0) (by decide) (by decide)
                      refine OGo.on (fun t k => XS.iloadN X0.here hx rfl (hb hby d1_128) rfl k) ?_
                      show OGo p e below s _ _ _ (s₁.setTop (mkF m 129 #[.val (.int vx)] [(.int vx)]))
                      refine OGo.on (fun t k => XS.sipush X0.here hx rfl (hb hby d1_129) k) ?_
                      show OGo p e below s _ _ _ (s₁.setTop (mkF m 132 #[.val (.int vx)] [(.int (11264 : Int32)), (.int vx)]))
                      by_cases hc9 : vx < (11264 : Int32)
                      · refine OGo.on (fun t k => XS.icmpYes X0.here hx rfl (pc0 := 132) (pc' := 142) rfl (hb hby d1_132) rfl (tlt hc9).1 (by decide) (by decide) k) ?_
                        show OGo p e below s _ _ _ (s₁.setTop (mkF m 142 #[.val (.int vx)] []))
                        exact J10 (fun q => q.1 hc9)
                      · refine OGo.on (fun t k => XS.icmpNo X0.here hx rfl (hb hby d1_132) rfl (flt hc9).1 k) ?_
                        show OGo p e below s _ _ _ (s₁.setTop (mkF m 135 #[.val (.int vx)] []))
                        refine OGo.on (fun t k => XS.iloadN X0.here hx rfl (hb hby d1_135) rfl k) ?_
                        show OGo p e below s _ _ _ (s₁.setTop (mkF m 136 #[.val (.int vx)] [(.int vx)]))
                        refine OGo.on (fun t k => XS.sipush X0.here hx rfl (hb hby d1_136) k) ?_
                        show OGo p e below s _ _ _ (s₁.setTop (mkF m 139 #[.val (.int vx)] [(.int (12271 : Int32)), (.int vx)]))
                        by_cases hc10 : (12271 : Int32) < vx
                        · refine OGo.on (fun t k => XS.icmpNo X0.here hx rfl (hb hby d1_139) rfl (tlt hc10).2.2.2 k) ?_
                          show OGo p e below s _ _ _ (s₁.setTop (mkF m 142 #[.val (.int vx)] []))
                          exact J10 (fun q => q.2 hc10)
                        · refine OGo.on (fun t k => XS.icmpYes X0.here hx rfl (pc0 := 139) (pc' := 191) rfl (hb hby d1_139) rfl (flt hc10).2.2.2 (by decide) (by decide) k) ?_
                          show OGo p e below s _ _ _ (s₁.setTop (mkF m 191 #[.val (.int vx)] []))
                          refine OGo.on (fun t k => XS.iconst X0.here hx rfl (hb hby d1_191) k) ?_
                          show OGo p e below s _ _ _ (s₁.setTop (mkF m 192 #[.val (.int vx)] [(.int (1 : Int32))]))
                          refine OGo.on (fun t k => XS.goto X0.here hx rfl (pc0 := 192) (pc' := 196) rfl (hb hby d1_192) (by decide) (by decide) k) ?_
                          show OGo p e below s _ _ _ (s₁.setTop (mkF m 196 #[.val (.int vx)] [(.int (1 : Int32))]))
                          exact OGo.retN X0 hx (t := .boolean) hret hlk (by simp) (hb hby d1_196) (opI (own_nsc1 (Or.inr (Or.inr (Or.inr (Or.inr (Or.inr (Or.inr (Or.inr (Or.inr (Or.inr (Or.inr (Or.inl ⟨hc9, hc10⟩)))))))))))) N0 e0) (by decide) (by decide)
                    refine OGo.on (fun t k => XS.iloadN X0.here hx rfl (hb hby d1_114) rfl k) ?_
                    show OGo p e below s _ _ _ (s₁.setTop (mkF m 115 #[.val (.int vx)] [(.int vx)]))
                    refine OGo.on (fun t k => XS.sipush X0.here hx rfl (hb hby d1_115) k) ?_
                    show OGo p e below s _ _ _ (s₁.setTop (mkF m 118 #[.val (.int vx)] [(.int (8304 : Int32)), (.int vx)]))
                    by_cases hc11 : vx < (8304 : Int32)
                    · refine OGo.on (fun t k => XS.icmpYes X0.here hx rfl (pc0 := 118) (pc' := 128) rfl (hb hby d1_118) rfl (tlt hc11).1 (by decide) (by decide) k) ?_
                      show OGo p e below s _ _ _ (s₁.setTop (mkF m 128 #[.val (.int vx)] []))
                      exact J9 (fun q => q.1 hc11)
                    · refine OGo.on (fun t k => XS.icmpNo X0.here hx rfl (hb hby d1_118) rfl (flt hc11).1 k) ?_
                      show OGo p e below s _ _ _ (s₁.setTop (mkF m 121 #[.val (.int vx)] []))
                      refine OGo.on (fun t k => XS.iloadN X0.here hx rfl (hb hby d1_121) rfl k) ?_
                      show OGo p e below s _ _ _ (s₁.setTop (mkF m 122 #[.val (.int vx)] [(.int vx)]))
                      refine OGo.on (fun t k => XS.sipush X0.here hx rfl (hb hby d1_122) k) ?_
                      show OGo p e below s _ _ _ (s₁.setTop (mkF m 125 #[.val (.int vx)] [(.int (8591 : Int32)), (.int vx)]))
                      by_cases hc12 : (8591 : Int32) < vx
                      · refine OGo.on (fun t k => XS.icmpNo X0.here hx rfl (hb hby d1_125) rfl (tlt hc12).2.2.2 k) ?_
                        show OGo p e below s _ _ _ (s₁.setTop (mkF m 128 #[.val (.int vx)] []))
                        exact J9 (fun q => q.2 hc12)
                      · refine OGo.on (fun t k => XS.icmpYes X0.here hx rfl (pc0 := 125) (pc' := 191) rfl (hb hby d1_125) rfl (flt hc12).2.2.2 (by decide) (by decide) k) ?_
                        show OGo p e below s _ _ _ (s₁.setTop (mkF m 191 #[.val (.int vx)] []))
                        refine OGo.on (fun t k => XS.iconst X0.here hx rfl (hb hby d1_191) k) ?_
                        show OGo p e below s _ _ _ (s₁.setTop (mkF m 192 #[.val (.int vx)] [(.int (1 : Int32))]))
                        refine OGo.on (fun t k => XS.goto X0.here hx rfl (pc0 := 192) (pc' := 196) rfl (hb hby d1_192) (by decide) (by decide) k) ?_
                        show OGo p e below s _ _ _ (s₁.setTop (mkF m 196 #[.val (.int vx)] [(.int (1 : Int32))]))
                        exact OGo.retN X0 hx (t := .boolean) hret hlk (by simp) (hb hby d1_196) (opI (own_nsc1 (Or.inr (Or.inr (Or.inr (Or.inr (Or.inr (Or.inr (Or.inr (Or.inr (Or.inr (Or.inl ⟨hc11, hc12⟩))))))))))) N0 e0) (by decide) (by decide)
                  refine OGo.on (fun t k => XS.iloadN X0.here hx rfl (hb hby d1_100) rfl k) ?_
                  show OGo p e below s _ _ _ (s₁.setTop (mkF m 101 #[.val (.int vx)] [(.int vx)]))
                  refine OGo.on (fun t k => XS.sipush X0.here hx rfl (hb hby d1_101) k) ?_
                  show OGo p e below s _ _ _ (s₁.setTop (mkF m 104 #[.val (.int vx)] [(.int (8204 : Int32)), (.int vx)]))
                  by_cases hc13 : vx < (8204 : Int32)
                  · refine OGo.on (fun t k => XS.icmpYes X0.here hx rfl (pc0 := 104) (pc' := 114) rfl (hb hby d1_104) rfl (tlt hc13).1 (by decide) (by decide) k) ?_
                    show OGo p e below s _ _ _ (s₁.setTop (mkF m 114 #[.val (.int vx)] []))
                    exact J8 (fun q => q.1 hc13)
                  · refine OGo.on (fun t k => XS.icmpNo X0.here hx rfl (hb hby d1_104) rfl (flt hc13).1 k) ?_
                    show OGo p e below s _ _ _ (s₁.setTop (mkF m 107 #[.val (.int vx)] []))
                    refine OGo.on (fun t k => XS.iloadN X0.here hx rfl (hb hby d1_107) rfl k) ?_
                    show OGo p e below s _ _ _ (s₁.setTop (mkF m 108 #[.val (.int vx)] [(.int vx)]))
                    refine OGo.on (fun t k => XS.sipush X0.here hx rfl (hb hby d1_108) k) ?_
                    show OGo p e below s _ _ _ (s₁.setTop (mkF m 111 #[.val (.int vx)] [(.int (8205 : Int32)), (.int vx)]))
                    by_cases hc14 : (8205 : Int32) < vx
                    · refine OGo.on (fun t k => XS.icmpNo X0.here hx rfl (hb hby d1_111) rfl (tlt hc14).2.2.2 k) ?_
                      show OGo p e below s _ _ _ (s₁.setTop (mkF m 114 #[.val (.int vx)] []))
                      exact J8 (fun q => q.2 hc14)
                    · refine OGo.on (fun t k => XS.icmpYes X0.here hx rfl (pc0 := 111) (pc' := 191) rfl (hb hby d1_111) rfl (flt hc14).2.2.2 (by decide) (by decide) k) ?_
                      show OGo p e below s _ _ _ (s₁.setTop (mkF m 191 #[.val (.int vx)] []))
                      refine OGo.on (fun t k => XS.iconst X0.here hx rfl (hb hby d1_191) k) ?_
                      show OGo p e below s _ _ _ (s₁.setTop (mkF m 192 #[.val (.int vx)] [(.int (1 : Int32))]))
                      refine OGo.on (fun t k => XS.goto X0.here hx rfl (pc0 := 192) (pc' := 196) rfl (hb hby d1_192) (by decide) (by decide) k) ?_
                      show OGo p e below s _ _ _ (s₁.setTop (mkF m 196 #[.val (.int vx)] [(.int (1 : Int32))]))
                      exact OGo.retN X0 hx (t := .boolean) hret hlk (by simp) (hb hby d1_196) (opI (own_nsc1 (Or.inr (Or.inr (Or.inr (Or.inr (Or.inr (Or.inr (Or.inr (Or.inr (Or.inl ⟨hc13, hc14⟩)))))))))) N0 e0) (by decide) (by decide)
                refine OGo.on (fun t k => XS.iloadN X0.here hx rfl (hb hby d1_86) rfl k) ?_
                show OGo p e below s _ _ _ (s₁.setTop (mkF m 87 #[.val (.int vx)] [(.int vx)]))
                refine OGo.on (fun t k => XS.sipush X0.here hx rfl (hb hby d1_87) k) ?_
                show OGo p e below s _ _ _ (s₁.setTop (mkF m 90 #[.val (.int vx)] [(.int (895 : Int32)), (.int vx)]))
                by_cases hc15 : vx < (895 : Int32)
                · refine OGo.on (fun t k => XS.icmpYes X0.here hx rfl (pc0 := 90) (pc' := 100) rfl (hb hby d1_90) rfl (tlt hc15).1 (by decide) (by decide) k) ?_
                  show OGo p e below s _ _ _ (s₁.setTop (mkF m 100 #[.val (.int vx)] []))
                  exact J7 (fun q => q.1 hc15)
                · refine OGo.on (fun t k => XS.icmpNo X0.here hx rfl (hb hby d1_90) rfl (flt hc15).1 k) ?_
                  show OGo p e below s _ _ _ (s₁.setTop (mkF m 93 #[.val (.int vx)] []))
                  refine OGo.on (fun t k => XS.iloadN X0.here hx rfl (hb hby d1_93) rfl k) ?_
                  show OGo p e below s _ _ _ (s₁.setTop (mkF m 94 #[.val (.int vx)] [(.int vx)]))
                  refine OGo.on (fun t k => XS.sipush X0.here hx rfl (hb hby d1_94) k) ?_
                  show OGo p e below s _ _ _ (s₁.setTop (mkF m 97 #[.val (.int vx)] [(.int (8191 : Int32)), (.int vx)]))
                  by_cases hc16 : (8191 : Int32) < vx
                  · refine OGo.on (fun t k => XS.icmpNo X0.here hx rfl (hb hby d1_97) rfl (tlt hc16).2.2.2 k) ?_
                    show OGo p e below s _ _ _ (s₁.setTop (mkF m 100 #[.val (.int vx)] []))
                    exact J7 (fun q => q.2 hc16)
                  · refine OGo.on (fun t k => XS.icmpYes X0.here hx rfl (pc0 := 97) (pc' := 191) rfl (hb hby d1_97) rfl (flt hc16).2.2.2 (by decide) (by decide) k) ?_
                    show OGo p e below s _ _ _ (s₁.setTop (mkF m 191 #[.val (.int vx)] []))
                    refine OGo.on (fun t k => XS.iconst X0.here hx rfl (hb hby d1_191) k) ?_
                    show OGo p e below s _ _ _ (s₁.setTop (mkF m 192 #[.val (.int vx)] [(.int (1 : Int32))]))
                    refine OGo.on (fun t k => XS.goto X0.here hx rfl (pc0 := 192) (pc' := 196) rfl (hb hby d1_192) (by decide) (by decide) k) ?_
                    show OGo p e below s _ _ _ (s₁.setTop (mkF m 196 #[.val (.int vx)] [(.int (1 : Int32))]))
                    exact OGo.retN X0 hx (t := .boolean) hret hlk (by simp) (hb hby d1_196) (opI (own_nsc1 (Or.inr (Or.inr (Or.inr (Or.inr (Or.inr (Or.inr (Or.inr (Or.inl ⟨hc15, hc16⟩))))))))) N0 e0) (by decide) (by decide)
              refine OGo.on (fun t k => XS.iloadN X0.here hx rfl (hb hby d1_72) rfl k) ?_
              show OGo p e below s _ _ _ (s₁.setTop (mkF m 73 #[.val (.int vx)] [(.int vx)]))
              refine OGo.on (fun t k => XS.sipush X0.here hx rfl (hb hby d1_73) k) ?_
              show OGo p e below s _ _ _ (s₁.setTop (mkF m 76 #[.val (.int vx)] [(.int (880 : Int32)), (.int vx)]))
              by_cases hc17 : vx < (880 : Int32)
              · refine OGo.on (fun t k => XS.icmpYes X0.here hx rfl (pc0 := 76) (pc' := 86) rfl (hb hby d1_76) rfl (tlt hc17).1 (by decide) (by decide) k) ?_
                show OGo p e below s _ _ _ (s₁.setTop (mkF m 86 #[.val (.int vx)] []))
                exact J6 (fun q => q.1 hc17)
              · refine OGo.on (fun t k => XS.icmpNo X0.here hx rfl (hb hby d1_76) rfl (flt hc17).1 k) ?_
                show OGo p e below s _ _ _ (s₁.setTop (mkF m 79 #[.val (.int vx)] []))
                refine OGo.on (fun t k => XS.iloadN X0.here hx rfl (hb hby d1_79) rfl k) ?_
                show OGo p e below s _ _ _ (s₁.setTop (mkF m 80 #[.val (.int vx)] [(.int vx)]))
                refine OGo.on (fun t k => XS.sipush X0.here hx rfl (hb hby d1_80) k) ?_
                show OGo p e below s _ _ _ (s₁.setTop (mkF m 83 #[.val (.int vx)] [(.int (893 : Int32)), (.int vx)]))
                by_cases hc18 : (893 : Int32) < vx
                · refine OGo.on (fun t k => XS.icmpNo X0.here hx rfl (hb hby d1_83) rfl (tlt hc18).2.2.2 k) ?_
                  show OGo p e below s _ _ _ (s₁.setTop (mkF m 86 #[.val (.int vx)] []))
                  exact J6 (fun q => q.2 hc18)
                · refine OGo.on (fun t k => XS.icmpYes X0.here hx rfl (pc0 := 83) (pc' := 191) rfl (hb hby d1_83) rfl (flt hc18).2.2.2 (by decide) (by decide) k) ?_
                  show OGo p e below s _ _ _ (s₁.setTop (mkF m 191 #[.val (.int vx)] []))
                  refine OGo.on (fun t k => XS.iconst X0.here hx rfl (hb hby d1_191) k) ?_
                  show OGo p e below s _ _ _ (s₁.setTop (mkF m 192 #[.val (.int vx)] [(.int (1 : Int32))]))
                  refine OGo.on (fun t k => XS.goto X0.here hx rfl (pc0 := 192) (pc' := 196) rfl (hb hby d1_192) (by decide) (by decide) k) ?_
                  show OGo p e below s _ _ _ (s₁.setTop (mkF m 196 #[.val (.int vx)] [(.int (1 : Int32))]))
                  exact OGo.retN X0 hx (t := .boolean) hret hlk (by simp) (hb hby d1_196) (opI (own_nsc1 (Or.inr (Or.inr (Or.inr (Or.inr (Or.inr (Or.inr (Or.inl ⟨hc17, hc18⟩)))))))) N0 e0) (by decide) (by decide)
            refine OGo.on (fun t k => XS.iloadN X0.here hx rfl (hb hby d1_58) rfl k) ?_
            show OGo p e below s _ _ _ (s₁.setTop (mkF m 59 #[.val (.int vx)] [(.int vx)]))
            refine OGo.on (fun t k => XS.sipush X0.here hx rfl (hb hby d1_59) k) ?_
            show OGo p e below s _ _ _ (s₁.setTop (mkF m 62 #[.val (.int vx)] [(.int (248 : Int32)), (.int vx)]))
            by_cases hc19 : vx < (248 : Int32)
            · refine OGo.on (fun t k => XS.icmpYes X0.here hx rfl (pc0 := 62) (pc' := 72) rfl (hb hby d1_62) rfl (tlt hc19).1 (by decide) (by decide) k) ?_
              show OGo p e below s _ _ _ (s₁.setTop (mkF m 72 #[.val (.int vx)] []))
              exact J5 (fun q => q.1 hc19)
            · refine OGo.on (fun t k => XS.icmpNo X0.here hx rfl (hb hby d1_62) rfl (flt hc19).1 k) ?_
              show OGo p e below s _ _ _ (s₁.setTop (mkF m 65 #[.val (.int vx)] []))
              refine OGo.on (fun t k => XS.iloadN X0.here hx rfl (hb hby d1_65) rfl k) ?_
              show OGo p e below s _ _ _ (s₁.setTop (mkF m 66 #[.val (.int vx)] [(.int vx)]))
              refine OGo.on (fun t k => XS.sipush X0.here hx rfl (hb hby d1_66) k) ?_
              show OGo p e below s _ _ _ (s₁.setTop (mkF m 69 #[.val (.int vx)] [(.int (767 : Int32)), (.int vx)]))
              by_cases hc20 : (767 : Int32) < vx
              · refine OGo.on (fun t k => XS.icmpNo X0.here hx rfl (hb hby d1_69) rfl (tlt hc20).2.2.2 k) ?_
                show OGo p e below s _ _ _ (s₁.setTop (mkF m 72 #[.val (.int vx)] []))
                exact J5 (fun q => q.2 hc20)
              · refine OGo.on (fun t k => XS.icmpYes X0.here hx rfl (pc0 := 69) (pc' := 191) rfl (hb hby d1_69) rfl (flt hc20).2.2.2 (by decide) (by decide) k) ?_
                show OGo p e below s _ _ _ (s₁.setTop (mkF m 191 #[.val (.int vx)] []))
                refine OGo.on (fun t k => XS.iconst X0.here hx rfl (hb hby d1_191) k) ?_
                show OGo p e below s _ _ _ (s₁.setTop (mkF m 192 #[.val (.int vx)] [(.int (1 : Int32))]))
                refine OGo.on (fun t k => XS.goto X0.here hx rfl (pc0 := 192) (pc' := 196) rfl (hb hby d1_192) (by decide) (by decide) k) ?_
                show OGo p e below s _ _ _ (s₁.setTop (mkF m 196 #[.val (.int vx)] [(.int (1 : Int32))]))
                exact OGo.retN X0 hx (t := .boolean) hret hlk (by simp) (hb hby d1_196) (opI (own_nsc1 (Or.inr (Or.inr (Or.inr (Or.inr (Or.inr (Or.inl ⟨hc19, hc20⟩))))))) N0 e0) (by decide) (by decide)
          refine OGo.on (fun t k => XS.iloadN X0.here hx rfl (hb hby d1_44) rfl k) ?_
          show OGo p e below s _ _ _ (s₁.setTop (mkF m 45 #[.val (.int vx)] [(.int vx)]))
          refine OGo.on (fun t k => XS.sipush X0.here hx rfl (hb hby d1_45) k) ?_
          show OGo p e below s _ _ _ (s₁.setTop (mkF m 48 #[.val (.int vx)] [(.int (216 : Int32)), (.int vx)]))
          by_cases hc21 : vx < (216 : Int32)
          · refine OGo.on (fun t k => XS.icmpYes X0.here hx rfl (pc0 := 48) (pc' := 58) rfl (hb hby d1_48) rfl (tlt hc21).1 (by decide) (by decide) k) ?_
            show OGo p e below s _ _ _ (s₁.setTop (mkF m 58 #[.val (.int vx)] []))
            exact J4 (fun q => q.1 hc21)
          · refine OGo.on (fun t k => XS.icmpNo X0.here hx rfl (hb hby d1_48) rfl (flt hc21).1 k) ?_
            show OGo p e below s _ _ _ (s₁.setTop (mkF m 51 #[.val (.int vx)] []))
            refine OGo.on (fun t k => XS.iloadN X0.here hx rfl (hb hby d1_51) rfl k) ?_
            show OGo p e below s _ _ _ (s₁.setTop (mkF m 52 #[.val (.int vx)] [(.int vx)]))
            refine OGo.on (fun t k => XS.sipush X0.here hx rfl (hb hby d1_52) k) ?_
            show OGo p e below s _ _ _ (s₁.setTop (mkF m 55 #[.val (.int vx)] [(.int (246 : Int32)), (.int vx)]))
            by_cases hc22 : (246 : Int32) < vx
            · refine OGo.on (fun t k => XS.icmpNo X0.here hx rfl (hb hby d1_55) rfl (tlt hc22).2.2.2 k) ?_
              show OGo p e below s _ _ _ (s₁.setTop (mkF m 58 #[.val (.int vx)] []))
              exact J4 (fun q => q.2 hc22)
            · refine OGo.on (fun t k => XS.icmpYes X0.here hx rfl (pc0 := 55) (pc' := 191) rfl (hb hby d1_55) rfl (flt hc22).2.2.2 (by decide) (by decide) k) ?_
              show OGo p e below s _ _ _ (s₁.setTop (mkF m 191 #[.val (.int vx)] []))
              refine OGo.on (fun t k => XS.iconst X0.here hx rfl (hb hby d1_191) k) ?_
              show OGo p e below s _ _ _ (s₁.setTop (mkF m 192 #[.val (.int vx)] [(.int (1 : Int32))]))
              refine OGo.on (fun t k => XS.goto X0.here hx rfl (pc0 := 192) (pc' := 196) rfl (hb hby d1_192) (by decide) (by decide) k) ?_
              show OGo p e below s _ _ _ (s₁.setTop (mkF m 196 #[.val (.int vx)] [(.int (1 : Int32))]))
              exact OGo.retN X0 hx (t := .boolean) hret hlk (by simp) (hb hby d1_196) (opI (own_nsc1 (Or.inr (Or.inr (Or.inr (Or.inr (Or.inl ⟨hc21, hc22⟩)))))) N0 e0) (by decide) (by decide)
        refine OGo.on (fun t k => XS.iloadN X0.here hx rfl (hb hby d1_30) rfl k) ?_
        show OGo p e below s _ _ _ (s₁.setTop (mkF m 31 #[.val (.int vx)] [(.int vx)]))
        refine OGo.on (fun t k => XS.sipush X0.here hx rfl (hb hby d1_31) k) ?_
        show OGo p e below s _ _ _ (s₁.setTop (mkF m 34 #[.val (.int vx)] [(.int (192 : Int32)), (.int vx)]))
        by_cases hc23 : vx < (192 : Int32)
        · refine OGo.on (fun t k => XS.icmpYes X0.here hx rfl (pc0 := 34) (pc' := 44) rfl (hb hby d1_34) rfl (tlt hc23).1 (by decide) (by decide) k) ?_
          show OGo p e below s _ _ _ (s₁.setTop (mkF m 44 #[.val (.int vx)] []))
          exact J3 (fun q => q.1 hc23)
        · refine OGo.on (fun t k => XS.icmpNo X0.here hx rfl (hb hby d1_34) rfl (flt hc23).1 k) ?_
          show OGo p e below s _ _ _ (s₁.setTop (mkF m 37 #[.val (.int vx)] []))
          refine OGo.on (fun t k => XS.iloadN X0.here hx rfl (hb hby d1_37) rfl k) ?_
          show OGo p e below s _ _ _ (s₁.setTop (mkF m 38 #[.val (.int vx)] [(.int vx)]))
          refine OGo.on (fun t k => XS.sipush X0.here hx rfl (hb hby d1_38) k) ?_
          show OGo p e below s _ _ _ (s₁.setTop (mkF m 41 #[.val (.int vx)] [(.int (214 : Int32)), (.int vx)]))
          by_cases hc24 : (214 : Int32) < vx
          · refine OGo.on (fun t k => XS.icmpNo X0.here hx rfl (hb hby d1_41) rfl (tlt hc24).2.2.2 k) ?_
            show OGo p e below s _ _ _ (s₁.setTop (mkF m 44 #[.val (.int vx)] []))
            exact J3 (fun q => q.2 hc24)
          · refine OGo.on (fun t k => XS.icmpYes X0.here hx rfl (pc0 := 41) (pc' := 191) rfl (hb hby d1_41) rfl (flt hc24).2.2.2 (by decide) (by decide) k) ?_
            show OGo p e below s _ _ _ (s₁.setTop (mkF m 191 #[.val (.int vx)] []))
            refine OGo.on (fun t k => XS.iconst X0.here hx rfl (hb hby d1_191) k) ?_
            show OGo p e below s _ _ _ (s₁.setTop (mkF m 192 #[.val (.int vx)] [(.int (1 : Int32))]))
            refine OGo.on (fun t k => XS.goto X0.here hx rfl (pc0 := 192) (pc' := 196) rfl (hb hby d1_192) (by decide) (by decide) k) ?_
            show OGo p e below s _ _ _ (s₁.setTop (mkF m 196 #[.val (.int vx)] [(.int (1 : Int32))]))
            exact OGo.retN X0 hx (t := .boolean) hret hlk (by simp) (hb hby d1_196) (opI (own_nsc1 (Or.inr (Or.inr (Or.inr (Or.inl ⟨hc23, hc24⟩))))) N0 e0) (by decide) (by decide)
      refine OGo.on (fun t k => XS.iloadN X0.here hx rfl (hb hby d1_24) rfl k) ?_
      show OGo p e below s _ _ _ (s₁.setTop (mkF m 25 #[.val (.int vx)] [(.int vx)]))
      refine OGo.on (fun t k => XS.bipush X0.here hx rfl (hb hby d1_25) k) ?_
      show OGo p e below s _ _ _ (s₁.setTop (mkF m 27 #[.val (.int vx)] [(.int (95 : Int32)), (.int vx)]))
      by_cases hc25 : vx = (95 : Int32)
      · refine OGo.on (fun t k => XS.icmpYes X0.here hx rfl (pc0 := 27) (pc' := 191) rfl (hb hby d1_27) rfl (teq hc25).1 (by decide) (by decide) k) ?_
        show OGo p e below s _ _ _ (s₁.setTop (mkF m 191 #[.val (.int vx)] []))
        refine OGo.on (fun t k => XS.iconst X0.here hx rfl (hb hby d1_191) k) ?_
        show OGo p e below s _ _ _ (s₁.setTop (mkF m 192 #[.val (.int vx)] [(.int (1 : Int32))]))
        refine OGo.on (fun t k => XS.goto X0.here hx rfl (pc0 := 192) (pc' := 196) rfl (hb hby d1_192) (by decide) (by decide) k) ?_
        show OGo p e below s _ _ _ (s₁.setTop (mkF m 196 #[.val (.int vx)] [(.int (1 : Int32))]))
        exact OGo.retN X0 hx (t := .boolean) hret hlk (by simp) (hb hby d1_196) (opI (own_nsc1 (Or.inr (Or.inr (Or.inl hc25)))) N0 e0) (by decide) (by decide)
      · refine OGo.on (fun t k => XS.icmpNo X0.here hx rfl (hb hby d1_27) rfl (feq hc25).1 k) ?_
        show OGo p e below s _ _ _ (s₁.setTop (mkF m 30 #[.val (.int vx)] []))
        exact J2 hc25
    refine OGo.on (fun t k => XS.iloadN X0.here hx rfl (hb hby d1_12) rfl k) ?_
    show OGo p e below s _ _ _ (s₁.setTop (mkF m 13 #[.val (.int vx)] [(.int vx)]))
    refine OGo.on (fun t k => XS.bipush X0.here hx rfl (hb hby d1_13) k) ?_
    show OGo p e below s _ _ _ (s₁.setTop (mkF m 15 #[.val (.int vx)] [(.int (97 : Int32)), (.int vx)]))
    by_cases hc26 : vx < (97 : Int32)
    · refine OGo.on (fun t k => XS.icmpYes X0.here hx rfl (pc0 := 15) (pc' := 24) rfl (hb hby d1_15) rfl (tlt hc26).1 (by decide) (by decide) k) ?_
      show OGo p e below s _ _ _ (s₁.setTop (mkF m 24 #[.val (.int vx)] []))
      exact J1 (fun q => q.1 hc26)
    · refine OGo.on (fun t k => XS.icmpNo X0.here hx rfl (hb hby d1_15) rfl (flt hc26).1 k) ?_
      show OGo p e below s _ _ _ (s₁.setTop (mkF m 18 #[.val (.int vx)] []))
      refine OGo.on (fun t k => XS.iloadN X0.here hx rfl (hb hby d1_18) rfl k) ?_
      show OGo p e below s _ _ _ (s₁.setTop (mkF m 19 #[.val (.int vx)] [(.int vx)]))
      refine OGo.on (fun t k => XS.bipush X0.here hx rfl (hb hby d1_19) k) ?_
      show OGo p e below s _ _ _ (s₁.setTop (mkF m 21 #[.val (.int vx)] [(.int (122 : Int32)), (.int vx)]))
      by_cases hc27 : (122 : Int32) < vx
      · refine OGo.on (fun t k => XS.icmpNo X0.here hx rfl (hb hby d1_21) rfl (tlt hc27).2.2.2 k) ?_
        show OGo p e below s _ _ _ (s₁.setTop (mkF m 24 #[.val (.int vx)] []))
        exact J1 (fun q => q.2 hc27)
      · refine OGo.on (fun t k => XS.icmpYes X0.here hx rfl (pc0 := 21) (pc' := 191) rfl (hb hby d1_21) rfl (flt hc27).2.2.2 (by decide) (by decide) k) ?_
        show OGo p e below s _ _ _ (s₁.setTop (mkF m 191 #[.val (.int vx)] []))
        refine OGo.on (fun t k => XS.iconst X0.here hx rfl (hb hby d1_191) k) ?_
        show OGo p e below s _ _ _ (s₁.setTop (mkF m 192 #[.val (.int vx)] [(.int (1 : Int32))]))
        refine OGo.on (fun t k => XS.goto X0.here hx rfl (pc0 := 192) (pc' := 196) rfl (hb hby d1_192) (by decide) (by decide) k) ?_
        show OGo p e below s _ _ _ (s₁.setTop (mkF m 196 #[.val (.int vx)] [(.int (1 : Int32))]))
        exact OGo.retN X0 hx (t := .boolean) hret hlk (by simp) (hb hby d1_196) (opI (own_nsc1 (Or.inr (Or.inl ⟨hc26, hc27⟩))) N0 e0) (by decide) (by decide)
  refine OGo.on (fun t k => XS.iloadN X0.here hx rfl (hb hby d1_0) rfl k) ?_
  show OGo p e below s _ _ _ (s₁.setTop (mkF m 1 #[.val (.int vx)] [(.int vx)]))
  refine OGo.on (fun t k => XS.bipush X0.here hx rfl (hb hby d1_1) k) ?_
  show OGo p e below s _ _ _ (s₁.setTop (mkF m 3 #[.val (.int vx)] [(.int (65 : Int32)), (.int vx)]))
  by_cases hc28 : vx < (65 : Int32)
  · refine OGo.on (fun t k => XS.icmpYes X0.here hx rfl (pc0 := 3) (pc' := 12) rfl (hb hby d1_3) rfl (tlt hc28).1 (by decide) (by decide) k) ?_
    show OGo p e below s _ _ _ (s₁.setTop (mkF m 12 #[.val (.int vx)] []))
    exact J0 (fun q => q.1 hc28)
  · refine OGo.on (fun t k => XS.icmpNo X0.here hx rfl (hb hby d1_3) rfl (flt hc28).1 k) ?_
    show OGo p e below s _ _ _ (s₁.setTop (mkF m 6 #[.val (.int vx)] []))
    refine OGo.on (fun t k => XS.iloadN X0.here hx rfl (hb hby d1_6) rfl k) ?_
    show OGo p e below s _ _ _ (s₁.setTop (mkF m 7 #[.val (.int vx)] [(.int vx)]))
    refine OGo.on (fun t k => XS.bipush X0.here hx rfl (hb hby d1_7) k) ?_
    show OGo p e below s _ _ _ (s₁.setTop (mkF m 9 #[.val (.int vx)] [(.int (90 : Int32)), (.int vx)]))
    by_cases hc29 : (90 : Int32) < vx
    · refine OGo.on (fun t k => XS.icmpNo X0.here hx rfl (hb hby d1_9) rfl (tlt hc29).2.2.2 k) ?_
      show OGo p e below s _ _ _ (s₁.setTop (mkF m 12 #[.val (.int vx)] []))
      exact J0 (fun q => q.2 hc29)
    · refine OGo.on (fun t k => XS.icmpYes X0.here hx rfl (pc0 := 9) (pc' := 191) rfl (hb hby d1_9) rfl (flt hc29).2.2.2 (by decide) (by decide) k) ?_
      show OGo p e below s _ _ _ (s₁.setTop (mkF m 191 #[.val (.int vx)] []))
      refine OGo.on (fun t k => XS.iconst X0.here hx rfl (hb hby d1_191) k) ?_
      show OGo p e below s _ _ _ (s₁.setTop (mkF m 192 #[.val (.int vx)] [(.int (1 : Int32))]))
      refine OGo.on (fun t k => XS.goto X0.here hx rfl (pc0 := 192) (pc' := 196) rfl (hb hby d1_192) (by decide) (by decide) k) ?_
      show OGo p e below s _ _ _ (s₁.setTop (mkF m 196 #[.val (.int vx)] [(.int (1 : Int32))]))
      exact OGo.retN X0 hx (t := .boolean) hret hlk (by simp) (hb hby d1_196) (opI (own_nsc1 (Or.inl ⟨hc28, hc29⟩)) N0 e0) (by decide) (by decide)
theorem own_pn1 : plainName "org/surnia/datatypes/NameCharactersIsNameStartCharPinLaw" = true := by first | (simp [plainName, overriddenIn]; done) | decide +kernel
theorem ef_own_mout (m : MethodId) (x0 : Int32) : entryFrame m #[(.int x0)] 1 = mkF m 0 #[.val (.int x0)] [] := by first | (simp [entryFrame, mkF, argsToLocals, Value.category]; done) | rfl
theorem d2_0 : decode method_3_code 0 = .ok (.iload_n 0, 1) := by decide +kernel
theorem d2_1 : decode method_3_code 1 = .ok (.bipush 65, 2) := by decide +kernel
theorem d2_3 : decode method_3_code 3 = .ok (.if_icmp .ge 5, 3) := by decide +kernel
theorem d2_6 : decode method_3_code 6 = .ok (.iconst 1, 1) := by decide +kernel
theorem d2_7 : decode method_3_code 7 = .ok (.ireturn, 1) := by decide +kernel
theorem d2_8 : decode method_3_code 8 = .ok (.iload_n 0, 1) := by decide +kernel
theorem d2_9 : decode method_3_code 9 = .ok (.ldc 13, 2) := by decide +kernel
theorem d2_11 : decode method_3_code 11 = .ok (.if_icmp .le 5, 3) := by decide +kernel
theorem d2_14 : decode method_3_code 14 = .ok (.iconst 1, 1) := by decide +kernel
theorem d2_15 : decode method_3_code 15 = .ok (.ireturn, 1) := by decide +kernel
theorem d2_16 : decode method_3_code 16 = .ok (.iload_n 0, 1) := by decide +kernel
theorem d2_17 : decode method_3_code 17 = .ok (.bipush 91, 2) := by decide +kernel
theorem d2_19 : decode method_3_code 19 = .ok (.if_icmp .lt 11, 3) := by decide +kernel
theorem d2_22 : decode method_3_code 22 = .ok (.iload_n 0, 1) := by decide +kernel
theorem d2_23 : decode method_3_code 23 = .ok (.bipush 94, 2) := by decide +kernel
theorem d2_25 : decode method_3_code 25 = .ok (.if_icmp .gt 5, 3) := by decide +kernel
theorem d2_28 : decode method_3_code 28 = .ok (.iconst 1, 1) := by decide +kernel
theorem d2_29 : decode method_3_code 29 = .ok (.ireturn, 1) := by decide +kernel
theorem d2_30 : decode method_3_code 30 = .ok (.iload_n 0, 1) := by decide +kernel
theorem d2_31 : decode method_3_code 31 = .ok (.bipush 96, 2) := by decide +kernel
theorem d2_33 : decode method_3_code 33 = .ok (.if_icmp .ne 5, 3) := by decide +kernel
theorem d2_36 : decode method_3_code 36 = .ok (.iconst 1, 1) := by decide +kernel
theorem d2_37 : decode method_3_code 37 = .ok (.ireturn, 1) := by decide +kernel
theorem d2_38 : decode method_3_code 38 = .ok (.iload_n 0, 1) := by decide +kernel
theorem d2_39 : decode method_3_code 39 = .ok (.bipush 123, 2) := by decide +kernel
theorem d2_41 : decode method_3_code 41 = .ok (.if_icmp .lt 12, 3) := by decide +kernel
theorem d2_44 : decode method_3_code 44 = .ok (.iload_n 0, 1) := by decide +kernel
theorem d2_45 : decode method_3_code 45 = .ok (.sipush 191, 3) := by decide +kernel
theorem d2_48 : decode method_3_code 48 = .ok (.if_icmp .gt 5, 3) := by decide +kernel
theorem d2_51 : decode method_3_code 51 = .ok (.iconst 1, 1) := by decide +kernel
theorem d2_52 : decode method_3_code 52 = .ok (.ireturn, 1) := by decide +kernel
theorem d2_53 : decode method_3_code 53 = .ok (.iload_n 0, 1) := by decide +kernel
theorem d2_54 : decode method_3_code 54 = .ok (.sipush 215, 3) := by decide +kernel
theorem d2_57 : decode method_3_code 57 = .ok (.if_icmp .eq 10, 3) := by decide +kernel
theorem d2_60 : decode method_3_code 60 = .ok (.iload_n 0, 1) := by decide +kernel
theorem d2_61 : decode method_3_code 61 = .ok (.sipush 247, 3) := by decide +kernel
theorem d2_64 : decode method_3_code 64 = .ok (.if_icmp .ne 5, 3) := by decide +kernel
theorem d2_67 : decode method_3_code 67 = .ok (.iconst 1, 1) := by decide +kernel
theorem d2_68 : decode method_3_code 68 = .ok (.ireturn, 1) := by decide +kernel
theorem d2_69 : decode method_3_code 69 = .ok (.iload_n 0, 1) := by decide +kernel
theorem d2_70 : decode method_3_code 70 = .ok (.sipush 768, 3) := by decide +kernel
theorem d2_73 : decode method_3_code 73 = .ok (.if_icmp .lt 12, 3) := by decide +kernel
theorem d2_76 : decode method_3_code 76 = .ok (.iload_n 0, 1) := by decide +kernel
theorem d2_77 : decode method_3_code 77 = .ok (.sipush 879, 3) := by decide +kernel
theorem d2_80 : decode method_3_code 80 = .ok (.if_icmp .gt 5, 3) := by decide +kernel
theorem d2_83 : decode method_3_code 83 = .ok (.iconst 1, 1) := by decide +kernel
theorem d2_84 : decode method_3_code 84 = .ok (.ireturn, 1) := by decide +kernel
theorem d2_85 : decode method_3_code 85 = .ok (.iload_n 0, 1) := by decide +kernel
theorem d2_86 : decode method_3_code 86 = .ok (.sipush 894, 3) := by decide +kernel
theorem d2_89 : decode method_3_code 89 = .ok (.if_icmp .ne 5, 3) := by decide +kernel
theorem d2_92 : decode method_3_code 92 = .ok (.iconst 1, 1) := by decide +kernel
theorem d2_93 : decode method_3_code 93 = .ok (.ireturn, 1) := by decide +kernel
theorem d2_94 : decode method_3_code 94 = .ok (.iload_n 0, 1) := by decide +kernel
theorem d2_95 : decode method_3_code 95 = .ok (.sipush 8192, 3) := by decide +kernel
theorem d2_98 : decode method_3_code 98 = .ok (.if_icmp .lt 12, 3) := by decide +kernel
theorem d2_101 : decode method_3_code 101 = .ok (.iload_n 0, 1) := by decide +kernel
theorem d2_102 : decode method_3_code 102 = .ok (.sipush 8203, 3) := by decide +kernel
theorem d2_105 : decode method_3_code 105 = .ok (.if_icmp .gt 5, 3) := by decide +kernel
theorem d2_108 : decode method_3_code 108 = .ok (.iconst 1, 1) := by decide +kernel
theorem d2_109 : decode method_3_code 109 = .ok (.ireturn, 1) := by decide +kernel
theorem d2_110 : decode method_3_code 110 = .ok (.iload_n 0, 1) := by decide +kernel
theorem d2_111 : decode method_3_code 111 = .ok (.sipush 8206, 3) := by decide +kernel
theorem d2_114 : decode method_3_code 114 = .ok (.if_icmp .lt 12, 3) := by decide +kernel
theorem d2_117 : decode method_3_code 117 = .ok (.iload_n 0, 1) := by decide +kernel
theorem d2_118 : decode method_3_code 118 = .ok (.sipush 8303, 3) := by decide +kernel
theorem d2_121 : decode method_3_code 121 = .ok (.if_icmp .gt 5, 3) := by decide +kernel
theorem d2_124 : decode method_3_code 124 = .ok (.iconst 1, 1) := by decide +kernel
theorem d2_125 : decode method_3_code 125 = .ok (.ireturn, 1) := by decide +kernel
theorem d2_126 : decode method_3_code 126 = .ok (.iload_n 0, 1) := by decide +kernel
theorem d2_127 : decode method_3_code 127 = .ok (.sipush 8592, 3) := by decide +kernel
theorem d2_130 : decode method_3_code 130 = .ok (.if_icmp .lt 12, 3) := by decide +kernel
theorem d2_133 : decode method_3_code 133 = .ok (.iload_n 0, 1) := by decide +kernel
theorem d2_134 : decode method_3_code 134 = .ok (.sipush 11263, 3) := by decide +kernel
theorem d2_137 : decode method_3_code 137 = .ok (.if_icmp .gt 5, 3) := by decide +kernel
theorem d2_140 : decode method_3_code 140 = .ok (.iconst 1, 1) := by decide +kernel
theorem d2_141 : decode method_3_code 141 = .ok (.ireturn, 1) := by decide +kernel
theorem d2_142 : decode method_3_code 142 = .ok (.iload_n 0, 1) := by decide +kernel
theorem d2_143 : decode method_3_code 143 = .ok (.sipush 12272, 3) := by decide +kernel
theorem d2_146 : decode method_3_code 146 = .ok (.if_icmp .lt 12, 3) := by decide +kernel
theorem d2_149 : decode method_3_code 149 = .ok (.iload_n 0, 1) := by decide +kernel
theorem d2_150 : decode method_3_code 150 = .ok (.sipush 12288, 3) := by decide +kernel
theorem d2_153 : decode method_3_code 153 = .ok (.if_icmp .gt 5, 3) := by decide +kernel
theorem d2_156 : decode method_3_code 156 = .ok (.iconst 1, 1) := by decide +kernel
theorem d2_157 : decode method_3_code 157 = .ok (.ireturn, 1) := by decide +kernel
theorem d2_158 : decode method_3_code 158 = .ok (.iload_n 0, 1) := by decide +kernel
theorem d2_159 : decode method_3_code 159 = .ok (.ldc 29, 2) := by decide +kernel
theorem d2_161 : decode method_3_code 161 = .ok (.if_icmp .lt 11, 3) := by decide +kernel
theorem d2_164 : decode method_3_code 164 = .ok (.iload_n 0, 1) := by decide +kernel
theorem d2_165 : decode method_3_code 165 = .ok (.ldc 30, 2) := by decide +kernel
theorem d2_167 : decode method_3_code 167 = .ok (.if_icmp .gt 5, 3) := by decide +kernel
theorem d2_170 : decode method_3_code 170 = .ok (.iconst 1, 1) := by decide +kernel
theorem d2_171 : decode method_3_code 171 = .ok (.ireturn, 1) := by decide +kernel
theorem d2_172 : decode method_3_code 172 = .ok (.iload_n 0, 1) := by decide +kernel
theorem d2_173 : decode method_3_code 173 = .ok (.ldc 31, 2) := by decide +kernel
theorem d2_175 : decode method_3_code 175 = .ok (.if_icmp .lt 11, 3) := by decide +kernel
theorem d2_178 : decode method_3_code 178 = .ok (.iload_n 0, 1) := by decide +kernel
theorem d2_179 : decode method_3_code 179 = .ok (.ldc 32, 2) := by decide +kernel
theorem d2_181 : decode method_3_code 181 = .ok (.if_icmp .gt 5, 3) := by decide +kernel
theorem d2_184 : decode method_3_code 184 = .ok (.iconst 1, 1) := by decide +kernel
theorem d2_185 : decode method_3_code 185 = .ok (.ireturn, 1) := by decide +kernel
theorem d2_186 : decode method_3_code 186 = .ok (.iload_n 0, 1) := by decide +kernel
theorem d2_187 : decode method_3_code 187 = .ok (.ldc 33, 2) := by decide +kernel
theorem d2_189 : decode method_3_code 189 = .ok (.if_icmp .lt 11, 3) := by decide +kernel
theorem d2_192 : decode method_3_code 192 = .ok (.iload_n 0, 1) := by decide +kernel
theorem d2_193 : decode method_3_code 193 = .ok (.ldc 34, 2) := by decide +kernel
theorem d2_195 : decode method_3_code 195 = .ok (.if_icmp .gt 5, 3) := by decide +kernel
theorem d2_198 : decode method_3_code 198 = .ok (.iconst 1, 1) := by decide +kernel
theorem d2_199 : decode method_3_code 199 = .ok (.ireturn, 1) := by decide +kernel
theorem d2_200 : decode method_3_code 200 = .ok (.iconst 0, 1) := by decide +kernel
theorem d2_201 : decode method_3_code 201 = .ok (.ireturn, 1) := by decide +kernel
set_option maxRecDepth 65536 in
set_option maxHeartbeats 40000000 in
theorem own_mout (l : Launch) (Z : State) (a0 : Array Value) (hw : ∀ d ∈ tables_1, d.before a0 Z = true) (ws : List Jvm.Cond) (vx : Int32) (h0 : Heap) (n0 : Nat) (Z0 : n0 ≤ h0.size)  :
    MetFree l (⟨"org/surnia/datatypes/NameCharactersIsNameStartCharPinLaw", "outside", "(I)Z"⟩ : MethodName) (head1 (Jvm.Cond.code (⟨"org/surnia/datatypes/NameCharactersIsNameStartCharPinLaw", "outside", "(I)Z"⟩ : MethodName) method_3_code 1 (some .boolean) :: ws) ({ frames := 0, cells := 0, slots := 0, locals := 0 } : Room)) (fun a U => a = #[(.int vx)] ∧ Z.Warmed39 U.vm ∧ U.heap = h0) (fun _ _ _ _ _ => True) (fun _ U o U' => ∃ v L, o = .returned v ∧ (OPure n0 h0 (some (.int (own_out vx)))) v U'.heap L ∧ FrameEnd U o U' L ({ frames := 0, cells := 0, slots := 0, locals := 0 } : Room).cells ({ frames := 0, cells := 0, slots := 0, locals := 0 } : Room).slots) := by
  refine MetFree.of_bodySF (plainFor_of_name own_pn1) hisR ?_
  intro p e s m args below meth c s₁ Bd hml0 hP hK
  obtain ⟨rfl, hZ, hh⟩ := hP
  have hx := Bd.exec
  have hby := Bd.bytes
  have hret := Bd.returns
  have hlk : meth.locks = false := Bd.notSynchronized
  have hml : c.maxLocals = 1 := hml0
  have hown : s.vm.findClass "org/surnia/datatypes/NameCharactersIsNameStartCharPinLaw" = some m.cls := findClass_of_methodNamed Bd.named
  have hnm := (name_of_methodNamed Bd.named Bd.method).1
  have X0 : Stand p l e ({ frames := 0, cells := 0, slots := 0, locals := 0 } : Room) s m #[(.int vx)] below meth c s₁ [] 0 0 := Stand.of_body Bd
  have e0 : s₁.heap = h0 := by rw [← hh, Bd.state]; rfl
  have N0 := Fr.nil n0
  have pre0 : ∀ t, Steps p.tables e below (s₁.setTop (mkF m 0 #[.val (.int vx)] [])) t → Steps p.tables e below (s₁.setTop (entryFrame m #[(.int vx)] 1)) t := fun t k => castTop (ef_own_mout m vx) k
  show OGo p e below s (OPure n0 h0 (some (.int (own_out vx)))) ({ frames := 0, cells := 0, slots := 0, locals := 0 } : Room).cells ({ frames := 0, cells := 0, slots := 0, locals := 0 } : Room).slots (s₁.setTop (entryFrame m #[(.int vx)] 1))
  refine OGo.on pre0 ?_
  show OGo p e below s _ _ _ (s₁.setTop (mkF m 0 #[.val (.int vx)] []))
  have J0 : ¬ (vx < 65) → OGo p e below s (OPure n0 h0 (some (.int (own_out vx)))) ({ frames := 0, cells := 0, slots := 0, locals := 0 } : Room).cells ({ frames := 0, cells := 0, slots := 0, locals := 0 } : Room).slots (s₁.setTop (mkF m 8 #[.val (.int vx)] [])) := by
    intro hn2_0
    show OGo p e below s _ _ _ (s₁.setTop (mkF m 8 #[.val (.int vx)] []))
    have J1 : ¬ (983039 < vx) → OGo p e below s (OPure n0 h0 (some (.int (own_out vx)))) ({ frames := 0, cells := 0, slots := 0, locals := 0 } : Room).cells ({ frames := 0, cells := 0, slots := 0, locals := 0 } : Room).slots (s₁.setTop (mkF m 16 #[.val (.int vx)] [])) := by
      intro hn2_1
      show OGo p e below s _ _ _ (s₁.setTop (mkF m 16 #[.val (.int vx)] []))
      have J2 : ¬ ((¬ vx < 91 ∧ ¬ 94 < vx)) → OGo p e below s (OPure n0 h0 (some (.int (own_out vx)))) ({ frames := 0, cells := 0, slots := 0, locals := 0 } : Room).cells ({ frames := 0, cells := 0, slots := 0, locals := 0 } : Room).slots (s₁.setTop (mkF m 30 #[.val (.int vx)] [])) := by
        intro hn2_2
        show OGo p e below s _ _ _ (s₁.setTop (mkF m 30 #[.val (.int vx)] []))
        have J3 : ¬ (vx = 96) → OGo p e below s (OPure n0 h0 (some (.int (own_out vx)))) ({ frames := 0, cells := 0, slots := 0, locals := 0 } : Room).cells ({ frames := 0, cells := 0, slots := 0, locals := 0 } : Room).slots (s₁.setTop (mkF m 38 #[.val (.int vx)] [])) := by
          intro hn2_3
          show OGo p e below s _ _ _ (s₁.setTop (mkF m 38 #[.val (.int vx)] []))
          have J4 : ¬ ((¬ vx < 123 ∧ ¬ 191 < vx)) → OGo p e below s (OPure n0 h0 (some (.int (own_out vx)))) ({ frames := 0, cells := 0, slots := 0, locals := 0 } : Room).cells ({ frames := 0, cells := 0, slots := 0, locals := 0 } : Room).slots (s₁.setTop (mkF m 53 #[.val (.int vx)] [])) := by
            intro hn2_4
            show OGo p e below s _ _ _ (s₁.setTop (mkF m 53 #[.val (.int vx)] []))
            have J5 : ¬ ((vx = 215 ∨ vx = 247)) → OGo p e below s (OPure n0 h0 (some (.int (own_out vx)))) ({ frames := 0, cells := 0, slots := 0, locals := 0 } : Room).cells ({ frames := 0, cells := 0, slots := 0, locals := 0 } : Room).slots (s₁.setTop (mkF m 69 #[.val (.int vx)] [])) := by
              intro hn2_5
              show OGo p e below s _ _ _ (s₁.setTop (mkF m 69 #[.val (.int vx)] []))
              have J6 : ¬ ((¬ vx < 768 ∧ ¬ 879 < vx)) → OGo p e below s (OPure n0 h0 (some (.int (own_out vx)))) ({ frames := 0, cells := 0, slots := 0, locals := 0 } : Room).cells ({ frames := 0, cells := 0, slots := 0, locals := 0 } : Room).slots (s₁.setTop (mkF m 85 #[.val (.int vx)] [])) := by
                intro hn2_6
                show OGo p e below s _ _ _ (s₁.setTop (mkF m 85 #[.val (.int vx)] []))
                have J7 : ¬ (vx = 894) → OGo p e below s (OPure n0 h0 (some (.int (own_out vx)))) ({ frames := 0, cells := 0, slots := 0, locals := 0 } : Room).cells ({ frames := 0, cells := 0, slots := 0, locals := 0 } : Room).slots (s₁.setTop (mkF m 94 #[.val (.int vx)] [])) := by
                  intro hn2_7
                  show OGo p e below s _ _ _ (s₁.setTop (mkF m 94 #[.val (.int vx)] []))
                  have J8 : ¬ ((¬ vx < 8192 ∧ ¬ 8203 < vx)) → OGo p e below s (OPure n0 h0 (some (.int (own_out vx)))) ({ frames := 0, cells := 0, slots := 0, locals := 0 } : Room).cells ({ frames := 0, cells := 0, slots := 0, locals := 0 } : Room).slots (s₁.setTop (mkF m 110 #[.val (.int vx)] [])) := by
                    intro hn2_8
                    show OGo p e below s _ _ _ (s₁.setTop (mkF m 110 #[.val (.int vx)] []))
                    have J9 : ¬ ((¬ vx < 8206 ∧ ¬ 8303 < vx)) → OGo p e below s (OPure n0 h0 (some (.int (own_out vx)))) ({ frames := 0, cells := 0, slots := 0, locals := 0 } : Room).cells ({ frames := 0, cells := 0, slots := 0, locals := 0 } : Room).slots (s₁.setTop (mkF m 126 #[.val (.int vx)] [])) := by
                      intro hn2_9
                      show OGo p e below s _ _ _ (s₁.setTop (mkF m 126 #[.val (.int vx)] []))
                      have J10 : ¬ ((¬ vx < 8592 ∧ ¬ 11263 < vx)) → OGo p e below s (OPure n0 h0 (some (.int (own_out vx)))) ({ frames := 0, cells := 0, slots := 0, locals := 0 } : Room).cells ({ frames := 0, cells := 0, slots := 0, locals := 0 } : Room).slots (s₁.setTop (mkF m 142 #[.val (.int vx)] [])) := by
                        intro hn2_10
                        show OGo p e below s _ _ _ (s₁.setTop (mkF m 142 #[.val (.int vx)] []))
                        have J11 : ¬ ((¬ vx < 12272 ∧ ¬ 12288 < vx)) → OGo p e below s (OPure n0 h0 (some (.int (own_out vx)))) ({ frames := 0, cells := 0, slots := 0, locals := 0 } : Room).cells ({ frames := 0, cells := 0, slots := 0, locals := 0 } : Room).slots (s₁.setTop (mkF m 158 #[.val (.int vx)] [])) := by
                          intro hn2_11
                          show OGo p e below s _ _ _ (s₁.setTop (mkF m 158 #[.val (.int vx)] []))
                          have J12 : ¬ ((¬ vx < 55296 ∧ ¬ 63743 < vx)) → OGo p e below s (OPure n0 h0 (some (.int (own_out vx)))) ({ frames := 0, cells := 0, slots := 0, locals := 0 } : Room).cells ({ frames := 0, cells := 0, slots := 0, locals := 0 } : Room).slots (s₁.setTop (mkF m 172 #[.val (.int vx)] [])) := by
                            intro hn2_12
                            show OGo p e below s _ _ _ (s₁.setTop (mkF m 172 #[.val (.int vx)] []))
                            have J13 : ¬ ((¬ vx < 64976 ∧ ¬ 65007 < vx)) → OGo p e below s (OPure n0 h0 (some (.int (own_out vx)))) ({ frames := 0, cells := 0, slots := 0, locals := 0 } : Room).cells ({ frames := 0, cells := 0, slots := 0, locals := 0 } : Room).slots (s₁.setTop (mkF m 186 #[.val (.int vx)] [])) := by
                              intro hn2_13
                              show OGo p e below s _ _ _ (s₁.setTop (mkF m 186 #[.val (.int vx)] []))
                              refine OGo.on (fun t k => XS.iloadN X0.here hx rfl (hb hby d2_186) rfl k) ?_
                              show OGo p e below s _ _ _ (s₁.setTop (mkF m 187 #[.val (.int vx)] [(.int vx)]))
                              refine OGo.on (fun t k => X0.ldcI hx hown (mvT hZ (hw _ (List.mem_of_getElem? (i := 28) rfl))) (g := (mkF m 187 #[.val (.int vx)] [(.int vx)])) rfl (hb hby d2_187) k) ?_
                              show OGo p e below s _ _ _ (s₁.setTop (mkF m 189 #[.val (.int vx)] [(.int (65534 : Int32)), (.int vx)]))
                              by_cases hc30 : vx < (65534 : Int32)
                              · refine OGo.on (fun t k => XS.icmpYes X0.here hx rfl (pc0 := 189) (pc' := 200) rfl (hb hby d2_189) rfl (tlt hc30).1 (by decide) (by decide) k) ?_
                                show OGo p e below s _ _ _ (s₁.setTop (mkF m 200 #[.val (.int vx)] []))
                                refine OGo.on (fun t k => XS.iconst X0.here hx rfl (hb hby d2_200) k) ?_
                                show OGo p e below s _ _ _ (s₁.setTop (mkF m 201 #[.val (.int vx)] [(.int (0 : Int32))]))
                                exact OGo.retN X0 hx (t := .boolean) hret hlk (by simp) (hb hby d2_201) (opI (own_out0 (fun q => q.elim hn2_0 (fun q => q.elim hn2_1 (fun q => q.elim hn2_2 (fun q => q.elim hn2_3 (fun q => q.elim hn2_4 (fun q => q.elim hn2_5 (fun q => q.elim hn2_6 (fun q => q.elim hn2_7 (fun q => q.elim hn2_8 (fun q => q.elim hn2_9 (fun q => q.elim hn2_10 (fun q => q.elim hn2_11 (fun q => q.elim hn2_12 (fun q => q.elim hn2_13 (fun q => q.1 hc30)))))))))))))))) N0 e0) (by decide) (by decide)
                              · refine OGo.on (fun t k => XS.icmpNo X0.here hx rfl (hb hby d2_189) rfl (flt hc30).1 k) ?_
                                show OGo p e below s _ _ _ (s₁.setTop (mkF m 192 #[.val (.int vx)] []))
                                refine OGo.on (fun t k => XS.iloadN X0.here hx rfl (hb hby d2_192) rfl k) ?_
                                show OGo p e below s _ _ _ (s₁.setTop (mkF m 193 #[.val (.int vx)] [(.int vx)]))
                                refine OGo.on (fun t k => X0.ldcI hx hown (mvT hZ (hw _ (List.mem_of_getElem? (i := 30) rfl))) (g := (mkF m 193 #[.val (.int vx)] [(.int vx)])) rfl (hb hby d2_193) k) ?_
                                show OGo p e below s _ _ _ (s₁.setTop (mkF m 195 #[.val (.int vx)] [(.int (65535 : Int32)), (.int vx)]))
                                by_cases hc31 : (65535 : Int32) < vx
                                · refine OGo.on (fun t k => XS.icmpYes X0.here hx rfl (pc0 := 195) (pc' := 200) rfl (hb hby d2_195) rfl (tlt hc31).2.2.1 (by decide) (by decide) k) ?_
                                  show OGo p e below s _ _ _ (s₁.setTop (mkF m 200 #[.val (.int vx)] []))
                                  refine OGo.on (fun t k => XS.iconst X0.here hx rfl (hb hby d2_200) k) ?_
                                  show OGo p e below s _ _ _ (s₁.setTop (mkF m 201 #[.val (.int vx)] [(.int (0 : Int32))]))
                                  exact OGo.retN X0 hx (t := .boolean) hret hlk (by simp) (hb hby d2_201) (opI (own_out0 (fun q => q.elim hn2_0 (fun q => q.elim hn2_1 (fun q => q.elim hn2_2 (fun q => q.elim hn2_3 (fun q => q.elim hn2_4 (fun q => q.elim hn2_5 (fun q => q.elim hn2_6 (fun q => q.elim hn2_7 (fun q => q.elim hn2_8 (fun q => q.elim hn2_9 (fun q => q.elim hn2_10 (fun q => q.elim hn2_11 (fun q => q.elim hn2_12 (fun q => q.elim hn2_13 (fun q => q.2 hc31)))))))))))))))) N0 e0) (by decide) (by decide)
                                · refine OGo.on (fun t k => XS.icmpNo X0.here hx rfl (hb hby d2_195) rfl (flt hc31).2.2.1 k) ?_
                                  show OGo p e below s _ _ _ (s₁.setTop (mkF m 198 #[.val (.int vx)] []))
                                  refine OGo.on (fun t k => XS.iconst X0.here hx rfl (hb hby d2_198) k) ?_
                                  show OGo p e below s _ _ _ (s₁.setTop (mkF m 199 #[.val (.int vx)] [(.int (1 : Int32))]))
                                  exact OGo.retN X0 hx (t := .boolean) hret hlk (by simp) (hb hby d2_199) (opI (own_out1 (Or.inr (Or.inr (Or.inr (Or.inr (Or.inr (Or.inr (Or.inr (Or.inr (Or.inr (Or.inr (Or.inr (Or.inr (Or.inr (Or.inr ⟨hc30, hc31⟩))))))))))))))) N0 e0) (by decide) (by decide)
                            refine OGo.on (fun t k => XS.iloadN X0.here hx rfl (hb hby d2_172) rfl k) ?_
                            show OGo p e below s _ _ _ (s₁.setTop (mkF m 173 #[.val (.int vx)] [(.int vx)]))
                            refine OGo.on (fun t k => X0.ldcI hx hown (mvT hZ (hw _ (List.mem_of_getElem? (i := 27) rfl))) (g := (mkF m 173 #[.val (.int vx)] [(.int vx)])) rfl (hb hby d2_173) k) ?_
                            show OGo p e below s _ _ _ (s₁.setTop (mkF m 175 #[.val (.int vx)] [(.int (64976 : Int32)), (.int vx)]))
                            by_cases hc32 : vx < (64976 : Int32)
                            · refine OGo.on (fun t k => XS.icmpYes X0.here hx rfl (pc0 := 175) (pc' := 186) rfl (hb hby d2_175) rfl (tlt hc32).1 (by decide) (by decide) k) ?_
                              show OGo p e below s _ _ _ (s₁.setTop (mkF m 186 #[.val (.int vx)] []))
                              exact J13 (fun q => q.1 hc32)
                            · refine OGo.on (fun t k => XS.icmpNo X0.here hx rfl (hb hby d2_175) rfl (flt hc32).1 k) ?_
                              show OGo p e below s _ _ _ (s₁.setTop (mkF m 178 #[.val (.int vx)] []))
                              refine OGo.on (fun t k => XS.iloadN X0.here hx rfl (hb hby d2_178) rfl k) ?_
                              show OGo p e below s _ _ _ (s₁.setTop (mkF m 179 #[.val (.int vx)] [(.int vx)]))
                              refine OGo.on (fun t k => X0.ldcI hx hown (mvT hZ (hw _ (List.mem_of_getElem? (i := 29) rfl))) (g := (mkF m 179 #[.val (.int vx)] [(.int vx)])) rfl (hb hby d2_179) k) ?_
                              show OGo p e below s _ _ _ (s₁.setTop (mkF m 181 #[.val (.int vx)] [(.int (65007 : Int32)), (.int vx)]))
                              by_cases hc33 : (65007 : Int32) < vx
                              · refine OGo.on (fun t k => XS.icmpYes X0.here hx rfl (pc0 := 181) (pc' := 186) rfl (hb hby d2_181) rfl (tlt hc33).2.2.1 (by decide) (by decide) k) ?_
                                show OGo p e below s _ _ _ (s₁.setTop (mkF m 186 #[.val (.int vx)] []))
                                exact J13 (fun q => q.2 hc33)
                              · refine OGo.on (fun t k => XS.icmpNo X0.here hx rfl (hb hby d2_181) rfl (flt hc33).2.2.1 k) ?_
                                show OGo p e below s _ _ _ (s₁.setTop (mkF m 184 #[.val (.int vx)] []))
                                refine OGo.on (fun t k => XS.iconst X0.here hx rfl (hb hby d2_184) k) ?_
                                show OGo p e below s _ _ _ (s₁.setTop (mkF m 185 #[.val (.int vx)] [(.int (1 : Int32))]))
                                exact OGo.retN X0 hx (t := .boolean) hret hlk (by simp) (hb hby d2_185) (opI (own_out1 (Or.inr (Or.inr (Or.inr (Or.inr (Or.inr (Or.inr (Or.inr (Or.inr (Or.inr (Or.inr (Or.inr (Or.inr (Or.inr (Or.inl ⟨hc32, hc33⟩))))))))))))))) N0 e0) (by decide) (by decide)
                          refine OGo.on (fun t k => XS.iloadN X0.here hx rfl (hb hby d2_158) rfl k) ?_
                          show OGo p e below s _ _ _ (s₁.setTop (mkF m 159 #[.val (.int vx)] [(.int vx)]))
                          refine OGo.on (fun t k => X0.ldcI hx hown (mvT hZ (hw _ (List.mem_of_getElem? (i := 25) rfl))) (g := (mkF m 159 #[.val (.int vx)] [(.int vx)])) rfl (hb hby d2_159) k) ?_
                          show OGo p e below s _ _ _ (s₁.setTop (mkF m 161 #[.val (.int vx)] [(.int (55296 : Int32)), (.int vx)]))
                          by_cases hc34 : vx < (55296 : Int32)
                          · refine OGo.on (fun t k => XS.icmpYes X0.here hx rfl (pc0 := 161) (pc' := 172) rfl (hb hby d2_161) rfl (tlt hc34).1 (by decide) (by decide) k) ?_
                            show OGo p e below s _ _ _ (s₁.setTop (mkF m 172 #[.val (.int vx)] []))
                            exact J12 (fun q => q.1 hc34)
                          · refine OGo.on (fun t k => XS.icmpNo X0.here hx rfl (hb hby d2_161) rfl (flt hc34).1 k) ?_
                            show OGo p e below s _ _ _ (s₁.setTop (mkF m 164 #[.val (.int vx)] []))
                            refine OGo.on (fun t k => XS.iloadN X0.here hx rfl (hb hby d2_164) rfl k) ?_
                            show OGo p e below s _ _ _ (s₁.setTop (mkF m 165 #[.val (.int vx)] [(.int vx)]))
                            refine OGo.on (fun t k => X0.ldcI hx hown (mvT hZ (hw _ (List.mem_of_getElem? (i := 26) rfl))) (g := (mkF m 165 #[.val (.int vx)] [(.int vx)])) rfl (hb hby d2_165) k) ?_
                            show OGo p e below s _ _ _ (s₁.setTop (mkF m 167 #[.val (.int vx)] [(.int (63743 : Int32)), (.int vx)]))
                            by_cases hc35 : (63743 : Int32) < vx
                            · refine OGo.on (fun t k => XS.icmpYes X0.here hx rfl (pc0 := 167) (pc' := 172) rfl (hb hby d2_167) rfl (tlt hc35).2.2.1 (by decide) (by decide) k) ?_
                              show OGo p e below s _ _ _ (s₁.setTop (mkF m 172 #[.val (.int vx)] []))
                              exact J12 (fun q => q.2 hc35)
                            · refine OGo.on (fun t k => XS.icmpNo X0.here hx rfl (hb hby d2_167) rfl (flt hc35).2.2.1 k) ?_
                              show OGo p e below s _ _ _ (s₁.setTop (mkF m 170 #[.val (.int vx)] []))
                              refine OGo.on (fun t k => XS.iconst X0.here hx rfl (hb hby d2_170) k) ?_
                              show OGo p e below s _ _ _ (s₁.setTop (mkF m 171 #[.val (.int vx)] [(.int (1 : Int32))]))
                              exact OGo.retN X0 hx (t := .boolean) hret hlk (by simp) (hb hby d2_171) (opI (own_out1 (Or.inr (Or.inr (Or.inr (Or.inr (Or.inr (Or.inr (Or.inr (Or.inr (Or.inr (Or.inr (Or.inr (Or.inr (Or.inl ⟨hc34, hc35⟩)))))))))))))) N0 e0) (by decide) (by decide)
                        refine OGo.on (fun t k => XS.iloadN X0.here hx rfl (hb hby d2_142) rfl k) ?_
                        show OGo p e below s _ _ _ (s₁.setTop (mkF m 143 #[.val (.int vx)] [(.int vx)]))
                        refine OGo.on (fun t k => XS.sipush X0.here hx rfl (hb hby d2_143) k) ?_
                        show OGo p e below s _ _ _ (s₁.setTop (mkF m 146 #[.val (.int vx)] [(.int (12272 : Int32)), (.int vx)]))
                        by_cases hc36 : vx < (12272 : Int32)
                        · refine OGo.on (fun t k => XS.icmpYes X0.here hx rfl (pc0 := 146) (pc' := 158) rfl (hb hby d2_146) rfl (tlt hc36).1 (by decide) (by decide) k) ?_
                          show OGo p e below s _ _ _ (s₁.setTop (mkF m 158 #[.val (.int vx)] []))
                          exact J11 (fun q => q.1 hc36)
                        · refine OGo.on (fun t k => XS.icmpNo X0.here hx rfl (hb hby d2_146) rfl (flt hc36).1 k) ?_
                          show OGo p e below s _ _ _ (s₁.setTop (mkF m 149 #[.val (.int vx)] []))
                          refine OGo.on (fun t k => XS.iloadN X0.here hx rfl (hb hby d2_149) rfl k) ?_
                          show OGo p e below s _ _ _ (s₁.setTop (mkF m 150 #[.val (.int vx)] [(.int vx)]))
                          refine OGo.on (fun t k => XS.sipush X0.here hx rfl (hb hby d2_150) k) ?_
                          show OGo p e below s _ _ _ (s₁.setTop (mkF m 153 #[.val (.int vx)] [(.int (12288 : Int32)), (.int vx)]))
                          by_cases hc37 : (12288 : Int32) < vx
                          · refine OGo.on (fun t k => XS.icmpYes X0.here hx rfl (pc0 := 153) (pc' := 158) rfl (hb hby d2_153) rfl (tlt hc37).2.2.1 (by decide) (by decide) k) ?_
                            show OGo p e below s _ _ _ (s₁.setTop (mkF m 158 #[.val (.int vx)] []))
                            exact J11 (fun q => q.2 hc37)
                          · refine OGo.on (fun t k => XS.icmpNo X0.here hx rfl (hb hby d2_153) rfl (flt hc37).2.2.1 k) ?_
                            show OGo p e below s _ _ _ (s₁.setTop (mkF m 156 #[.val (.int vx)] []))
                            refine OGo.on (fun t k => XS.iconst X0.here hx rfl (hb hby d2_156) k) ?_
                            show OGo p e below s _ _ _ (s₁.setTop (mkF m 157 #[.val (.int vx)] [(.int (1 : Int32))]))
                            exact OGo.retN X0 hx (t := .boolean) hret hlk (by simp) (hb hby d2_157) (opI (own_out1 (Or.inr (Or.inr (Or.inr (Or.inr (Or.inr (Or.inr (Or.inr (Or.inr (Or.inr (Or.inr (Or.inr (Or.inl ⟨hc36, hc37⟩))))))))))))) N0 e0) (by decide) (by decide)
                      refine OGo.on (fun t k => XS.iloadN X0.here hx rfl (hb hby d2_126) rfl k) ?_
                      show OGo p e below s _ _ _ (s₁.setTop (mkF m 127 #[.val (.int vx)] [(.int vx)]))
                      refine OGo.on (fun t k => XS.sipush X0.here hx rfl (hb hby d2_127) k) ?_
                      show OGo p e below s _ _ _ (s₁.setTop (mkF m 130 #[.val (.int vx)] [(.int (8592 : Int32)), (.int vx)]))
                      by_cases hc38 : vx < (8592 : Int32)
                      · refine OGo.on (fun t k => XS.icmpYes X0.here hx rfl (pc0 := 130) (pc' := 142) rfl (hb hby d2_130) rfl (tlt hc38).1 (by decide) (by decide) k) ?_
                        show OGo p e below s _ _ _ (s₁.setTop (mkF m 142 #[.val (.int vx)] []))
                        exact J10 (fun q => q.1 hc38)
                      · refine OGo.on (fun t k => XS.icmpNo X0.here hx rfl (hb hby d2_130) rfl (flt hc38).1 k) ?_
                        show OGo p e below s _ _ _ (s₁.setTop (mkF m 133 #[.val (.int vx)] []))
                        refine OGo.on (fun t k => XS.iloadN X0.here hx rfl (hb hby d2_133) rfl k) ?_
                        show OGo p e below s _ _ _ (s₁.setTop (mkF m 134 #[.val (.int vx)] [(.int vx)]))
                        refine OGo.on (fun t k => XS.sipush X0.here hx rfl (hb hby d2_134) k) ?_
                        show OGo p e below s _ _ _ (s₁.setTop (mkF m 137 #[.val (.int vx)] [(.int (11263 : Int32)), (.int vx)]))
                        by_cases hc39 : (11263 : Int32) < vx
                        · refine OGo.on (fun t k => XS.icmpYes X0.here hx rfl (pc0 := 137) (pc' := 142) rfl (hb hby d2_137) rfl (tlt hc39).2.2.1 (by decide) (by decide) k) ?_
                          show OGo p e below s _ _ _ (s₁.setTop (mkF m 142 #[.val (.int vx)] []))
                          exact J10 (fun q => q.2 hc39)
                        · refine OGo.on (fun t k => XS.icmpNo X0.here hx rfl (hb hby d2_137) rfl (flt hc39).2.2.1 k) ?_
                          show OGo p e below s _ _ _ (s₁.setTop (mkF m 140 #[.val (.int vx)] []))
                          refine OGo.on (fun t k => XS.iconst X0.here hx rfl (hb hby d2_140) k) ?_
                          show OGo p e below s _ _ _ (s₁.setTop (mkF m 141 #[.val (.int vx)] [(.int (1 : Int32))]))
                          exact OGo.retN X0 hx (t := .boolean) hret hlk (by simp) (hb hby d2_141) (opI (own_out1 (Or.inr (Or.inr (Or.inr (Or.inr (Or.inr (Or.inr (Or.inr (Or.inr (Or.inr (Or.inr (Or.inl ⟨hc38, hc39⟩)))))))))))) N0 e0) (by decide) (by decide)
                    refine OGo.on (fun t k => XS.iloadN X0.here hx rfl (hb hby d2_110) rfl k) ?_
                    show OGo p e below s _ _ _ (s₁.setTop (mkF m 111 #[.val (.int vx)] [(.int vx)]))
                    refine OGo.on (fun t k => XS.sipush X0.here hx rfl (hb hby d2_111) k) ?_
                    show OGo p e below s _ _ _ (s₁.setTop (mkF m 114 #[.val (.int vx)] [(.int (8206 : Int32)), (.int vx)]))
                    by_cases hc40 : vx < (8206 : Int32)
                    · refine OGo.on (fun t k => XS.icmpYes X0.here hx rfl (pc0 := 114) (pc' := 126) rfl (hb hby d2_114) rfl (tlt hc40).1 (by decide) (by decide) k) ?_
                      show OGo p e below s _ _ _ (s₁.setTop (mkF m 126 #[.val (.int vx)] []))
                      exact J9 (fun q => q.1 hc40)
                    · refine OGo.on (fun t k => XS.icmpNo X0.here hx rfl (hb hby d2_114) rfl (flt hc40).1 k) ?_
                      show OGo p e below s _ _ _ (s₁.setTop (mkF m 117 #[.val (.int vx)] []))
                      refine OGo.on (fun t k => XS.iloadN X0.here hx rfl (hb hby d2_117) rfl k) ?_
                      show OGo p e below s _ _ _ (s₁.setTop (mkF m 118 #[.val (.int vx)] [(.int vx)]))
                      refine OGo.on (fun t k => XS.sipush X0.here hx rfl (hb hby d2_118) k) ?_
                      show OGo p e below s _ _ _ (s₁.setTop (mkF m 121 #[.val (.int vx)] [(.int (8303 : Int32)), (.int vx)]))
                      by_cases hc41 : (8303 : Int32) < vx
                      · refine OGo.on (fun t k => XS.icmpYes X0.here hx rfl (pc0 := 121) (pc' := 126) rfl (hb hby d2_121) rfl (tlt hc41).2.2.1 (by decide) (by decide) k) ?_
                        show OGo p e below s _ _ _ (s₁.setTop (mkF m 126 #[.val (.int vx)] []))
                        exact J9 (fun q => q.2 hc41)
                      · refine OGo.on (fun t k => XS.icmpNo X0.here hx rfl (hb hby d2_121) rfl (flt hc41).2.2.1 k) ?_
                        show OGo p e below s _ _ _ (s₁.setTop (mkF m 124 #[.val (.int vx)] []))
                        refine OGo.on (fun t k => XS.iconst X0.here hx rfl (hb hby d2_124) k) ?_
                        show OGo p e below s _ _ _ (s₁.setTop (mkF m 125 #[.val (.int vx)] [(.int (1 : Int32))]))
                        exact OGo.retN X0 hx (t := .boolean) hret hlk (by simp) (hb hby d2_125) (opI (own_out1 (Or.inr (Or.inr (Or.inr (Or.inr (Or.inr (Or.inr (Or.inr (Or.inr (Or.inr (Or.inl ⟨hc40, hc41⟩))))))))))) N0 e0) (by decide) (by decide)
                  refine OGo.on (fun t k => XS.iloadN X0.here hx rfl (hb hby d2_94) rfl k) ?_
                  show OGo p e below s _ _ _ (s₁.setTop (mkF m 95 #[.val (.int vx)] [(.int vx)]))
                  refine OGo.on (fun t k => XS.sipush X0.here hx rfl (hb hby d2_95) k) ?_
                  show OGo p e below s _ _ _ (s₁.setTop (mkF m 98 #[.val (.int vx)] [(.int (8192 : Int32)), (.int vx)]))
                  by_cases hc42 : vx < (8192 : Int32)
                  · refine OGo.on (fun t k => XS.icmpYes X0.here hx rfl (pc0 := 98) (pc' := 110) rfl (hb hby d2_98) rfl (tlt hc42).1 (by decide) (by decide) k) ?_
                    show OGo p e below s _ _ _ (s₁.setTop (mkF m 110 #[.val (.int vx)] []))
                    exact J8 (fun q => q.1 hc42)
                  · refine OGo.on (fun t k => XS.icmpNo X0.here hx rfl (hb hby d2_98) rfl (flt hc42).1 k) ?_
                    show OGo p e below s _ _ _ (s₁.setTop (mkF m 101 #[.val (.int vx)] []))
                    refine OGo.on (fun t k => XS.iloadN X0.here hx rfl (hb hby d2_101) rfl k) ?_
                    show OGo p e below s _ _ _ (s₁.setTop (mkF m 102 #[.val (.int vx)] [(.int vx)]))
                    refine OGo.on (fun t k => XS.sipush X0.here hx rfl (hb hby d2_102) k) ?_
                    show OGo p e below s _ _ _ (s₁.setTop (mkF m 105 #[.val (.int vx)] [(.int (8203 : Int32)), (.int vx)]))
                    by_cases hc43 : (8203 : Int32) < vx
                    · refine OGo.on (fun t k => XS.icmpYes X0.here hx rfl (pc0 := 105) (pc' := 110) rfl (hb hby d2_105) rfl (tlt hc43).2.2.1 (by decide) (by decide) k) ?_
                      show OGo p e below s _ _ _ (s₁.setTop (mkF m 110 #[.val (.int vx)] []))
                      exact J8 (fun q => q.2 hc43)
                    · refine OGo.on (fun t k => XS.icmpNo X0.here hx rfl (hb hby d2_105) rfl (flt hc43).2.2.1 k) ?_
                      show OGo p e below s _ _ _ (s₁.setTop (mkF m 108 #[.val (.int vx)] []))
                      refine OGo.on (fun t k => XS.iconst X0.here hx rfl (hb hby d2_108) k) ?_
                      show OGo p e below s _ _ _ (s₁.setTop (mkF m 109 #[.val (.int vx)] [(.int (1 : Int32))]))
                      exact OGo.retN X0 hx (t := .boolean) hret hlk (by simp) (hb hby d2_109) (opI (own_out1 (Or.inr (Or.inr (Or.inr (Or.inr (Or.inr (Or.inr (Or.inr (Or.inr (Or.inl ⟨hc42, hc43⟩)))))))))) N0 e0) (by decide) (by decide)
                refine OGo.on (fun t k => XS.iloadN X0.here hx rfl (hb hby d2_85) rfl k) ?_
                show OGo p e below s _ _ _ (s₁.setTop (mkF m 86 #[.val (.int vx)] [(.int vx)]))
                refine OGo.on (fun t k => XS.sipush X0.here hx rfl (hb hby d2_86) k) ?_
                show OGo p e below s _ _ _ (s₁.setTop (mkF m 89 #[.val (.int vx)] [(.int (894 : Int32)), (.int vx)]))
                by_cases hc44 : vx = (894 : Int32)
                · refine OGo.on (fun t k => XS.icmpNo X0.here hx rfl (hb hby d2_89) rfl (teq hc44).2 k) ?_
                  show OGo p e below s _ _ _ (s₁.setTop (mkF m 92 #[.val (.int vx)] []))
                  refine OGo.on (fun t k => XS.iconst X0.here hx rfl (hb hby d2_92) k) ?_
                  show OGo p e below s _ _ _ (s₁.setTop (mkF m 93 #[.val (.int vx)] [(.int (1 : Int32))]))
                  exact OGo.retN X0 hx (t := .boolean) hret hlk (by simp) (hb hby d2_93) (opI (own_out1 (Or.inr (Or.inr (Or.inr (Or.inr (Or.inr (Or.inr (Or.inr (Or.inl hc44))))))))) N0 e0) (by decide) (by decide)
                · refine OGo.on (fun t k => XS.icmpYes X0.here hx rfl (pc0 := 89) (pc' := 94) rfl (hb hby d2_89) rfl (feq hc44).2 (by decide) (by decide) k) ?_
                  show OGo p e below s _ _ _ (s₁.setTop (mkF m 94 #[.val (.int vx)] []))
                  exact J7 hc44
              refine OGo.on (fun t k => XS.iloadN X0.here hx rfl (hb hby d2_69) rfl k) ?_
              show OGo p e below s _ _ _ (s₁.setTop (mkF m 70 #[.val (.int vx)] [(.int vx)]))
              refine OGo.on (fun t k => XS.sipush X0.here hx rfl (hb hby d2_70) k) ?_
              show OGo p e below s _ _ _ (s₁.setTop (mkF m 73 #[.val (.int vx)] [(.int (768 : Int32)), (.int vx)]))
              by_cases hc45 : vx < (768 : Int32)
              · refine OGo.on (fun t k => XS.icmpYes X0.here hx rfl (pc0 := 73) (pc' := 85) rfl (hb hby d2_73) rfl (tlt hc45).1 (by decide) (by decide) k) ?_
                show OGo p e below s _ _ _ (s₁.setTop (mkF m 85 #[.val (.int vx)] []))
                exact J6 (fun q => q.1 hc45)
              · refine OGo.on (fun t k => XS.icmpNo X0.here hx rfl (hb hby d2_73) rfl (flt hc45).1 k) ?_
                show OGo p e below s _ _ _ (s₁.setTop (mkF m 76 #[.val (.int vx)] []))
                refine OGo.on (fun t k => XS.iloadN X0.here hx rfl (hb hby d2_76) rfl k) ?_
                show OGo p e below s _ _ _ (s₁.setTop (mkF m 77 #[.val (.int vx)] [(.int vx)]))
                refine OGo.on (fun t k => XS.sipush X0.here hx rfl (hb hby d2_77) k) ?_
                show OGo p e below s _ _ _ (s₁.setTop (mkF m 80 #[.val (.int vx)] [(.int (879 : Int32)), (.int vx)]))
                by_cases hc46 : (879 : Int32) < vx
                · refine OGo.on (fun t k => XS.icmpYes X0.here hx rfl (pc0 := 80) (pc' := 85) rfl (hb hby d2_80) rfl (tlt hc46).2.2.1 (by decide) (by decide) k) ?_
                  show OGo p e below s _ _ _ (s₁.setTop (mkF m 85 #[.val (.int vx)] []))
                  exact J6 (fun q => q.2 hc46)
                · refine OGo.on (fun t k => XS.icmpNo X0.here hx rfl (hb hby d2_80) rfl (flt hc46).2.2.1 k) ?_
                  show OGo p e below s _ _ _ (s₁.setTop (mkF m 83 #[.val (.int vx)] []))
                  refine OGo.on (fun t k => XS.iconst X0.here hx rfl (hb hby d2_83) k) ?_
                  show OGo p e below s _ _ _ (s₁.setTop (mkF m 84 #[.val (.int vx)] [(.int (1 : Int32))]))
                  exact OGo.retN X0 hx (t := .boolean) hret hlk (by simp) (hb hby d2_84) (opI (own_out1 (Or.inr (Or.inr (Or.inr (Or.inr (Or.inr (Or.inr (Or.inl ⟨hc45, hc46⟩)))))))) N0 e0) (by decide) (by decide)
            refine OGo.on (fun t k => XS.iloadN X0.here hx rfl (hb hby d2_53) rfl k) ?_
            show OGo p e below s _ _ _ (s₁.setTop (mkF m 54 #[.val (.int vx)] [(.int vx)]))
            refine OGo.on (fun t k => XS.sipush X0.here hx rfl (hb hby d2_54) k) ?_
            show OGo p e below s _ _ _ (s₁.setTop (mkF m 57 #[.val (.int vx)] [(.int (215 : Int32)), (.int vx)]))
            by_cases hc47 : vx = (215 : Int32)
            · refine OGo.on (fun t k => XS.icmpYes X0.here hx rfl (pc0 := 57) (pc' := 67) rfl (hb hby d2_57) rfl (teq hc47).1 (by decide) (by decide) k) ?_
              show OGo p e below s _ _ _ (s₁.setTop (mkF m 67 #[.val (.int vx)] []))
              refine OGo.on (fun t k => XS.iconst X0.here hx rfl (hb hby d2_67) k) ?_
              show OGo p e below s _ _ _ (s₁.setTop (mkF m 68 #[.val (.int vx)] [(.int (1 : Int32))]))
              exact OGo.retN X0 hx (t := .boolean) hret hlk (by simp) (hb hby d2_68) (opI (own_out1 (Or.inr (Or.inr (Or.inr (Or.inr (Or.inr (Or.inl (Or.inl hc47)))))))) N0 e0) (by decide) (by decide)
            · refine OGo.on (fun t k => XS.icmpNo X0.here hx rfl (hb hby d2_57) rfl (feq hc47).1 k) ?_
              show OGo p e below s _ _ _ (s₁.setTop (mkF m 60 #[.val (.int vx)] []))
              refine OGo.on (fun t k => XS.iloadN X0.here hx rfl (hb hby d2_60) rfl k) ?_
              show OGo p e below s _ _ _ (s₁.setTop (mkF m 61 #[.val (.int vx)] [(.int vx)]))
              refine OGo.on (fun t k => XS.sipush X0.here hx rfl (hb hby d2_61) k) ?_
              show OGo p e below s _ _ _ (s₁.setTop (mkF m 64 #[.val (.int vx)] [(.int (247 : Int32)), (.int vx)]))
              by_cases hc48 : vx = (247 : Int32)
              · refine OGo.on (fun t k => XS.icmpNo X0.here hx rfl (hb hby d2_64) rfl (teq hc48).2 k) ?_
                show OGo p e below s _ _ _ (s₁.setTop (mkF m 67 #[.val (.int vx)] []))
                refine OGo.on (fun t k => XS.iconst X0.here hx rfl (hb hby d2_67) k) ?_
                show OGo p e below s _ _ _ (s₁.setTop (mkF m 68 #[.val (.int vx)] [(.int (1 : Int32))]))
                exact OGo.retN X0 hx (t := .boolean) hret hlk (by simp) (hb hby d2_68) (opI (own_out1 (Or.inr (Or.inr (Or.inr (Or.inr (Or.inr (Or.inl (Or.inr hc48)))))))) N0 e0) (by decide) (by decide)
              · refine OGo.on (fun t k => XS.icmpYes X0.here hx rfl (pc0 := 64) (pc' := 69) rfl (hb hby d2_64) rfl (feq hc48).2 (by decide) (by decide) k) ?_
                show OGo p e below s _ _ _ (s₁.setTop (mkF m 69 #[.val (.int vx)] []))
                exact J5 (fun q => q.elim hc47 hc48)
          refine OGo.on (fun t k => XS.iloadN X0.here hx rfl (hb hby d2_38) rfl k) ?_
          show OGo p e below s _ _ _ (s₁.setTop (mkF m 39 #[.val (.int vx)] [(.int vx)]))
          refine OGo.on (fun t k => XS.bipush X0.here hx rfl (hb hby d2_39) k) ?_
          show OGo p e below s _ _ _ (s₁.setTop (mkF m 41 #[.val (.int vx)] [(.int (123 : Int32)), (.int vx)]))
          by_cases hc49 : vx < (123 : Int32)
          · refine OGo.on (fun t k => XS.icmpYes X0.here hx rfl (pc0 := 41) (pc' := 53) rfl (hb hby d2_41) rfl (tlt hc49).1 (by decide) (by decide) k) ?_
            show OGo p e below s _ _ _ (s₁.setTop (mkF m 53 #[.val (.int vx)] []))
            exact J4 (fun q => q.1 hc49)
          · refine OGo.on (fun t k => XS.icmpNo X0.here hx rfl (hb hby d2_41) rfl (flt hc49).1 k) ?_
            show OGo p e below s _ _ _ (s₁.setTop (mkF m 44 #[.val (.int vx)] []))
            refine OGo.on (fun t k => XS.iloadN X0.here hx rfl (hb hby d2_44) rfl k) ?_
            show OGo p e below s _ _ _ (s₁.setTop (mkF m 45 #[.val (.int vx)] [(.int vx)]))
            refine OGo.on (fun t k => XS.sipush X0.here hx rfl (hb hby d2_45) k) ?_
            show OGo p e below s _ _ _ (s₁.setTop (mkF m 48 #[.val (.int vx)] [(.int (191 : Int32)), (.int vx)]))
            by_cases hc50 : (191 : Int32) < vx
            · refine OGo.on (fun t k => XS.icmpYes X0.here hx rfl (pc0 := 48) (pc' := 53) rfl (hb hby d2_48) rfl (tlt hc50).2.2.1 (by decide) (by decide) k) ?_
              show OGo p e below s _ _ _ (s₁.setTop (mkF m 53 #[.val (.int vx)] []))
              exact J4 (fun q => q.2 hc50)
            · refine OGo.on (fun t k => XS.icmpNo X0.here hx rfl (hb hby d2_48) rfl (flt hc50).2.2.1 k) ?_
              show OGo p e below s _ _ _ (s₁.setTop (mkF m 51 #[.val (.int vx)] []))
              refine OGo.on (fun t k => XS.iconst X0.here hx rfl (hb hby d2_51) k) ?_
              show OGo p e below s _ _ _ (s₁.setTop (mkF m 52 #[.val (.int vx)] [(.int (1 : Int32))]))
              exact OGo.retN X0 hx (t := .boolean) hret hlk (by simp) (hb hby d2_52) (opI (own_out1 (Or.inr (Or.inr (Or.inr (Or.inr (Or.inl ⟨hc49, hc50⟩)))))) N0 e0) (by decide) (by decide)
        refine OGo.on (fun t k => XS.iloadN X0.here hx rfl (hb hby d2_30) rfl k) ?_
        show OGo p e below s _ _ _ (s₁.setTop (mkF m 31 #[.val (.int vx)] [(.int vx)]))
        refine OGo.on (fun t k => XS.bipush X0.here hx rfl (hb hby d2_31) k) ?_
        show OGo p e below s _ _ _ (s₁.setTop (mkF m 33 #[.val (.int vx)] [(.int (96 : Int32)), (.int vx)]))
        by_cases hc51 : vx = (96 : Int32)
        · refine OGo.on (fun t k => XS.icmpNo X0.here hx rfl (hb hby d2_33) rfl (teq hc51).2 k) ?_
          show OGo p e below s _ _ _ (s₁.setTop (mkF m 36 #[.val (.int vx)] []))
          refine OGo.on (fun t k => XS.iconst X0.here hx rfl (hb hby d2_36) k) ?_
          show OGo p e below s _ _ _ (s₁.setTop (mkF m 37 #[.val (.int vx)] [(.int (1 : Int32))]))
          exact OGo.retN X0 hx (t := .boolean) hret hlk (by simp) (hb hby d2_37) (opI (own_out1 (Or.inr (Or.inr (Or.inr (Or.inl hc51))))) N0 e0) (by decide) (by decide)
        · refine OGo.on (fun t k => XS.icmpYes X0.here hx rfl (pc0 := 33) (pc' := 38) rfl (hb hby d2_33) rfl (feq hc51).2 (by decide) (by decide) k) ?_
          show OGo p e below s _ _ _ (s₁.setTop (mkF m 38 #[.val (.int vx)] []))
          exact J3 hc51
      refine OGo.on (fun t k => XS.iloadN X0.here hx rfl (hb hby d2_16) rfl k) ?_
      show OGo p e below s _ _ _ (s₁.setTop (mkF m 17 #[.val (.int vx)] [(.int vx)]))
      refine OGo.on (fun t k => XS.bipush X0.here hx rfl (hb hby d2_17) k) ?_
      show OGo p e below s _ _ _ (s₁.setTop (mkF m 19 #[.val (.int vx)] [(.int (91 : Int32)), (.int vx)]))
      by_cases hc52 : vx < (91 : Int32)
      · refine OGo.on (fun t k => XS.icmpYes X0.here hx rfl (pc0 := 19) (pc' := 30) rfl (hb hby d2_19) rfl (tlt hc52).1 (by decide) (by decide) k) ?_
        show OGo p e below s _ _ _ (s₁.setTop (mkF m 30 #[.val (.int vx)] []))
        exact J2 (fun q => q.1 hc52)
      · refine OGo.on (fun t k => XS.icmpNo X0.here hx rfl (hb hby d2_19) rfl (flt hc52).1 k) ?_
        show OGo p e below s _ _ _ (s₁.setTop (mkF m 22 #[.val (.int vx)] []))
        refine OGo.on (fun t k => XS.iloadN X0.here hx rfl (hb hby d2_22) rfl k) ?_
        show OGo p e below s _ _ _ (s₁.setTop (mkF m 23 #[.val (.int vx)] [(.int vx)]))
        refine OGo.on (fun t k => XS.bipush X0.here hx rfl (hb hby d2_23) k) ?_
        show OGo p e below s _ _ _ (s₁.setTop (mkF m 25 #[.val (.int vx)] [(.int (94 : Int32)), (.int vx)]))
        by_cases hc53 : (94 : Int32) < vx
        · refine OGo.on (fun t k => XS.icmpYes X0.here hx rfl (pc0 := 25) (pc' := 30) rfl (hb hby d2_25) rfl (tlt hc53).2.2.1 (by decide) (by decide) k) ?_
          show OGo p e below s _ _ _ (s₁.setTop (mkF m 30 #[.val (.int vx)] []))
          exact J2 (fun q => q.2 hc53)
        · refine OGo.on (fun t k => XS.icmpNo X0.here hx rfl (hb hby d2_25) rfl (flt hc53).2.2.1 k) ?_
          show OGo p e below s _ _ _ (s₁.setTop (mkF m 28 #[.val (.int vx)] []))
          refine OGo.on (fun t k => XS.iconst X0.here hx rfl (hb hby d2_28) k) ?_
          show OGo p e below s _ _ _ (s₁.setTop (mkF m 29 #[.val (.int vx)] [(.int (1 : Int32))]))
          exact OGo.retN X0 hx (t := .boolean) hret hlk (by simp) (hb hby d2_29) (opI (own_out1 (Or.inr (Or.inr (Or.inl ⟨hc52, hc53⟩)))) N0 e0) (by decide) (by decide)
    refine OGo.on (fun t k => XS.iloadN X0.here hx rfl (hb hby d2_8) rfl k) ?_
    show OGo p e below s _ _ _ (s₁.setTop (mkF m 9 #[.val (.int vx)] [(.int vx)]))
    refine OGo.on (fun t k => X0.ldcI hx hown (mvT hZ (hw _ (List.mem_of_getElem? (i := 7) rfl))) (g := (mkF m 9 #[.val (.int vx)] [(.int vx)])) rfl (hb hby d2_9) k) ?_
    show OGo p e below s _ _ _ (s₁.setTop (mkF m 11 #[.val (.int vx)] [(.int (983039 : Int32)), (.int vx)]))
    by_cases hc54 : (983039 : Int32) < vx
    · refine OGo.on (fun t k => XS.icmpNo X0.here hx rfl (hb hby d2_11) rfl (tlt hc54).2.2.2 k) ?_
      show OGo p e below s _ _ _ (s₁.setTop (mkF m 14 #[.val (.int vx)] []))
      refine OGo.on (fun t k => XS.iconst X0.here hx rfl (hb hby d2_14) k) ?_
      show OGo p e below s _ _ _ (s₁.setTop (mkF m 15 #[.val (.int vx)] [(.int (1 : Int32))]))
      exact OGo.retN X0 hx (t := .boolean) hret hlk (by simp) (hb hby d2_15) (opI (own_out1 (Or.inr (Or.inl hc54))) N0 e0) (by decide) (by decide)
    · refine OGo.on (fun t k => XS.icmpYes X0.here hx rfl (pc0 := 11) (pc' := 16) rfl (hb hby d2_11) rfl (flt hc54).2.2.2 (by decide) (by decide) k) ?_
      show OGo p e below s _ _ _ (s₁.setTop (mkF m 16 #[.val (.int vx)] []))
      exact J1 hc54
  refine OGo.on (fun t k => XS.iloadN X0.here hx rfl (hb hby d2_0) rfl k) ?_
  show OGo p e below s _ _ _ (s₁.setTop (mkF m 1 #[.val (.int vx)] [(.int vx)]))
  refine OGo.on (fun t k => XS.bipush X0.here hx rfl (hb hby d2_1) k) ?_
  show OGo p e below s _ _ _ (s₁.setTop (mkF m 3 #[.val (.int vx)] [(.int (65 : Int32)), (.int vx)]))
  by_cases hc55 : vx < (65 : Int32)
  · refine OGo.on (fun t k => XS.icmpNo X0.here hx rfl (hb hby d2_3) rfl (tlt hc55).2.1 k) ?_
    show OGo p e below s _ _ _ (s₁.setTop (mkF m 6 #[.val (.int vx)] []))
    refine OGo.on (fun t k => XS.iconst X0.here hx rfl (hb hby d2_6) k) ?_
    show OGo p e below s _ _ _ (s₁.setTop (mkF m 7 #[.val (.int vx)] [(.int (1 : Int32))]))
    exact OGo.retN X0 hx (t := .boolean) hret hlk (by simp) (hb hby d2_7) (opI (own_out1 (Or.inl hc55)) N0 e0) (by decide) (by decide)
  · refine OGo.on (fun t k => XS.icmpYes X0.here hx rfl (pc0 := 3) (pc' := 8) rfl (hb hby d2_3) rfl (flt hc55).2.1 (by decide) (by decide) k) ?_
    show OGo p e below s _ _ _ (s₁.setTop (mkF m 8 #[.val (.int vx)] []))
    exact J0 hc55
theorem own_pd0 : parseMethodDescriptor "(I)Z" = some ⟨[.int], some .boolean⟩ := by decide +kernel
theorem ef_own_law (m : MethodId) (x0 : Int32) (x1 : Int32) (x2 : Int32) : entryFrame m #[(.int x0), (.int x1), (.int x2)] maxLocals = mkF m 0 #[.val (.int x0), .val (.int x1), .val (.int x2), .unset, .unset, .unset] [] := by first | (simp [entryFrame, mkF, argsToLocals, Value.category, maxLocals]; done) | rfl
set_option maxRecDepth 65536 in
set_option maxHeartbeats 40000000 in
theorem own_law (l : Launch) (Z : State) (a0 : Array Value) (hw : ∀ d ∈ tables_1, d.before a0 Z = true) (ws : List Jvm.Cond) (vc vsel voff : Int32) (h0 : Heap) (n0 : Nat) (Z0 : n0 ≤ h0.size)  :
    MetFree l x (head1 (Jvm.Cond.code x code maxLocals ret :: ws) room_1) (fun a U => a = #[(.int vc), (.int vsel), (.int voff)] ∧ Z.Warmed39 U.vm ∧ U.heap = h0) (fun _ _ _ _ _ => True) (fun _ U o U' => ∃ v L, o = .returned v ∧ (fun v h L => v = some (.int 1) ∧ Fr n0 L) v U'.heap L ∧ FrameEnd U o U' L 16 128) := by
  refine MetFree.of_bodySF (plainFor_of_name own_pn1) hisR ?_
  intro p e s m args below meth c s₁ Bd hml0 hP hK
  obtain ⟨rfl, hZ, hh⟩ := hP
  have hx := Bd.exec
  have hby := Bd.bytes
  have hret := Bd.returns
  have hlk : meth.locks = false := Bd.notSynchronized
  have hml : c.maxLocals = 6 := hml0
  have hown : s.vm.findClass "org/surnia/datatypes/NameCharactersIsNameStartCharPinLaw" = some m.cls := findClass_of_methodNamed Bd.named
  have hnm := (name_of_methodNamed Bd.named Bd.method).1
  have X0 : Stand p l e room_1 s m #[(.int vc), (.int vsel), (.int voff)] below meth c s₁ [] 0 0 := Stand.of_body Bd
  have e0 : s₁.heap = h0 := by rw [← hh, Bd.state]; rfl
  have N0 := Fr.nil n0
  have pre0 : ∀ t, Steps p.tables e below (s₁.setTop (mkF m 0 #[.val (.int vc), .val (.int vsel), .val (.int voff), .unset, .unset, .unset] [])) t → Steps p.tables e below (s₁.setTop (entryFrame m #[(.int vc), (.int vsel), (.int voff)] maxLocals)) t := fun t k => castTop (ef_own_law m vc vsel voff) k
  show OGo p e below s (fun v h L => v = some (.int 1) ∧ Fr n0 L) 16 128 (s₁.setTop (entryFrame m #[(.int vc), (.int vsel), (.int voff)] maxLocals))
  refine OGo.on pre0 ?_
  show OGo p e below s _ _ _ (s₁.setTop (mkF m 0 #[.val (.int vc), .val (.int vsel), .val (.int voff), .unset, .unset, .unset] []))
  refine OGo.on (fun t k => XS.iloadN X0.here hx rfl (hb hby at_0) rfl k) ?_
  show OGo p e below s _ _ _ (s₁.setTop (mkF m 1 #[.val (.int vc), .val (.int vsel), .val (.int voff), .unset, .unset, .unset] [(.int vc)]))
  refine OGo.on (fun t k => XS.istoreN X0.here hx rfl (hb hby at_1) rfl (l' := #[.val (.int vc), .val (.int vsel), .val (.int voff), .val (.int vc), .unset, .unset]) rfl k) ?_
  show OGo p e below s _ _ _ (s₁.setTop (mkF m 2 #[.val (.int vc), .val (.int vsel), .val (.int voff), .val (.int vc), .unset, .unset] []))
  refine OGo.on (fun t k => XS.iloadN X0.here hx rfl (hb hby at_2) rfl k) ?_
  show OGo p e below s _ _ _ (s₁.setTop (mkF m 3 #[.val (.int vc), .val (.int vsel), .val (.int voff), .val (.int vc), .unset, .unset] [(.int vsel)]))
  refine OGo.on (fun t k => XS.iconst X0.here hx rfl (hb hby at_3) k) ?_
  show OGo p e below s _ _ _ (s₁.setTop (mkF m 4 #[.val (.int vc), .val (.int vsel), .val (.int voff), .val (.int vc), .unset, .unset] [(.int (1 : Int32)), (.int vsel)]))
  refine OGo.on (fun t k => XS.iand X0.here hx rfl (hb hby at_4) rfl k) ?_
  show OGo p e below s _ _ _ (s₁.setTop (mkF m 5 #[.val (.int vc), .val (.int vsel), .val (.int voff), .val (.int vc), .unset, .unset] [(.int (vsel &&& (1 : Int32)))]))
  by_cases hc56 : (vsel &&& (1 : Int32)) = (0 : Int32)
  · refine OGo.on (fun t k => XS.ifYes X0.here hx rfl (pc0 := 5) (pc' := 238) rfl (hb hby at_5) rfl ((if0 _ _).trans (teq hc56).1) (by decide) (by decide) k) ?_
    show OGo p e below s _ _ _ (s₁.setTop (mkF m 238 #[.val (.int vc), .val (.int vsel), .val (.int voff), .val (.int vc), .unset, .unset] []))
    refine OGo.on (fun t k => XS.iloadN X0.here hx rfl (hb hby at_238) rfl k) ?_
    show OGo p e below s _ _ _ (s₁.setTop (mkF m 239 #[.val (.int vc), .val (.int vsel), .val (.int voff), .val (.int vc), .unset, .unset] [(.int vc)]))
    obtain ⟨_, _, ⟨T57, L57, k57, n57⟩, -, X57, ⟨Lc57, hQ57, l57, y57, z57⟩, st57⟩ := Jvm.LawKit.callS X0 hx (y := (⟨"org/surnia/datatypes/NameCharacters", "isNameStartChar", "(I)Z"⟩ : MethodName)) hown (mvT hZ (hw _ (List.mem_of_getElem? (i := 10) rfl))) (mvT hZ (hw _ (List.mem_of_getElem? (i := 11) rfl))) (mvT hZ (hw _ (List.mem_of_getElem? (i := 12) rfl))) (mvT hZ (hw _ (List.mem_of_getElem? (i := 13) rfl))) (by decide) (backOf (W := 0) (own_mnsc l Z a0 hw [] vc h0 n0 Z0) hZ (hw _ (List.mem_of_getElem? (i := 13) rfl)) (hw _ (List.mem_of_getElem? (i := 12) rfl)) (by decide) (by decide)) (g := (mkF m 239 #[.val (.int vc), .val (.int vsel), .val (.int voff), .val (.int vc), .unset, .unset] [(.int vc)])) rfl (by rw [hml]; rfl) (argsL := [(.int vc)]) (rest := []) (lenOf own_pd0 rfl) rfl (by show 2 * 0 + _ ≤ _; exact Nat.le_of_eq rfl) (hb hby at_239) (fun _ _ => ⟨rfl, e0, (by decide : 0 + 0 ≤ _), (by decide : 0 + 0 ≤ _)⟩)
    dsimp only [Pt.U, Pt.locs, Pt.cells, Pt.slots] at X57 l57 y57 z57 st57 hQ57
    subst l57 y57 z57
    obtain ⟨rfl, N57q, e57⟩ := hQ57
    have N57 := Fr.app N0 N57q
    obtain ⟨Lh58, Xh58, Nh58⟩ := own_hide X57 N57
    refine OGo.on st57 ?_
    show OGo p e below s _ _ _ (T57.setTop (mkF m 242 #[.val (.int vc), .val (.int vsel), .val (.int voff), .val (.int vc), .unset, .unset] [(.int (own_nsc vc))]))
    refine OGo.on (fun t k => XS.iloadN Xh58.here hx rfl (hb hby at_242) rfl k) ?_
    show OGo p e below s _ _ _ (T57.setTop (mkF m 243 #[.val (.int vc), .val (.int vsel), .val (.int voff), .val (.int vc), .unset, .unset] [(.int vc), (.int (own_nsc vc))]))
    obtain ⟨_, _, ⟨T59, L59, k59, n59⟩, -, X59, ⟨Lc59, hQ59, l59, y59, z59⟩, st59⟩ := Jvm.LawKit.callS Xh58 hx (y := (⟨"org/surnia/datatypes/NameCharactersIsNameStartCharPinLaw", "outside", "(I)Z"⟩ : MethodName)) hown (mvT hZ (hw _ (List.mem_of_getElem? (i := 17) rfl))) (mvT hZ (hw _ (List.mem_of_getElem? (i := 18) rfl))) (mvT hZ (hw _ (List.mem_of_getElem? (i := 19) rfl))) (mvT hZ (hw _ (List.mem_of_getElem? (i := 20) rfl))) (by decide) (backOf (W := 1) (own_mout l Z a0 hw [] vc h0 n0 Z0) hZ (hw _ (List.mem_of_getElem? (i := 20) rfl)) (hw _ (List.mem_of_getElem? (i := 19) rfl)) (by decide) (by decide)) (g := (mkF m 243 #[.val (.int vc), .val (.int vsel), .val (.int voff), .val (.int vc), .unset, .unset] [(.int vc), (.int (own_nsc vc))])) rfl (by rw [hml]; rfl) (argsL := [(.int vc)]) (rest := [(.int (own_nsc vc))]) (lenOf own_pd0 rfl) rfl (by show 2 * 0 + _ ≤ _; exact Nat.le_of_eq rfl) (hb hby at_243) (fun _ _ => ⟨rfl, e57, (by decide : 0 + 0 ≤ _), (by decide : 0 + 0 ≤ _)⟩)
    dsimp only [Pt.U, Pt.locs, Pt.cells, Pt.slots] at X59 l59 y59 z59 st59 hQ59
    subst l59 y59 z59
    obtain ⟨rfl, N59q, e59⟩ := hQ59
    have N59 := Fr.app Nh58 N59q
    obtain ⟨Lh60, Xh60, Nh60⟩ := own_hide X59 N59
    refine OGo.on st59 ?_
    show OGo p e below s _ _ _ (T59.setTop (mkF m 246 #[.val (.int vc), .val (.int vsel), .val (.int voff), .val (.int vc), .unset, .unset] [(.int (own_out vc)), (.int (own_nsc vc))]))
    by_cases hc61 : (own_out vc) = (0 : Int32)
    · refine OGo.on (fun t k => XS.ifNo Xh60.here hx rfl (hb hby at_246) rfl ((if0 _ _).trans (teq hc61).2) k) ?_
      show OGo p e below s _ _ _ (T59.setTop (mkF m 249 #[.val (.int vc), .val (.int vsel), .val (.int voff), .val (.int vc), .unset, .unset] [(.int (own_nsc vc))]))
      refine OGo.on (fun t k => XS.iconst Xh60.here hx rfl (hb hby at_249) k) ?_
      show OGo p e below s _ _ _ (T59.setTop (mkF m 250 #[.val (.int vc), .val (.int vsel), .val (.int voff), .val (.int vc), .unset, .unset] [(.int (1 : Int32)), (.int (own_nsc vc))]))
      refine OGo.on (fun t k => XS.goto Xh60.here hx rfl (pc0 := 250) (pc' := 254) rfl (hb hby at_250) (by decide) (by decide) k) ?_
      show OGo p e below s _ _ _ (T59.setTop (mkF m 254 #[.val (.int vc), .val (.int vsel), .val (.int voff), .val (.int vc), .unset, .unset] [(.int (1 : Int32)), (.int (own_nsc vc))]))
      refine OGo.on (fun t k => XS.icmpNo Xh60.here hx rfl (hb hby at_254) rfl (teq (own_k0 hc61)).2 k) ?_
      show OGo p e below s _ _ _ (T59.setTop (mkF m 257 #[.val (.int vc), .val (.int vsel), .val (.int voff), .val (.int vc), .unset, .unset] []))
      refine OGo.on (fun t k => XS.iconst Xh60.here hx rfl (hb hby at_257) k) ?_
      show OGo p e below s _ _ _ (T59.setTop (mkF m 258 #[.val (.int vc), .val (.int vsel), .val (.int voff), .val (.int vc), .unset, .unset] [(.int (1 : Int32))]))
      refine OGo.on (fun t k => XS.goto Xh60.here hx rfl (pc0 := 258) (pc' := 262) rfl (hb hby at_258) (by decide) (by decide) k) ?_
      show OGo p e below s _ _ _ (T59.setTop (mkF m 262 #[.val (.int vc), .val (.int vsel), .val (.int voff), .val (.int vc), .unset, .unset] [(.int (1 : Int32))]))
      exact OGo.retN Xh60 hx (t := .boolean) hret hlk (by simp) (hb hby at_262) ⟨rfl, Nh60⟩ (by decide) (by decide)
    · refine OGo.on (fun t k => XS.ifYes Xh60.here hx rfl (pc0 := 246) (pc' := 253) rfl (hb hby at_246) rfl ((if0 _ _).trans (feq hc61).2) (by decide) (by decide) k) ?_
      show OGo p e below s _ _ _ (T59.setTop (mkF m 253 #[.val (.int vc), .val (.int vsel), .val (.int voff), .val (.int vc), .unset, .unset] [(.int (own_nsc vc))]))
      refine OGo.on (fun t k => XS.iconst Xh60.here hx rfl (hb hby at_253) k) ?_
      show OGo p e below s _ _ _ (T59.setTop (mkF m 254 #[.val (.int vc), .val (.int vsel), .val (.int voff), .val (.int vc), .unset, .unset] [(.int (0 : Int32)), (.int (own_nsc vc))]))
      refine OGo.on (fun t k => XS.icmpNo Xh60.here hx rfl (hb hby at_254) rfl (teq (own_k1 hc61)).2 k) ?_
      show OGo p e below s _ _ _ (T59.setTop (mkF m 257 #[.val (.int vc), .val (.int vsel), .val (.int voff), .val (.int vc), .unset, .unset] []))
      refine OGo.on (fun t k => XS.iconst Xh60.here hx rfl (hb hby at_257) k) ?_
      show OGo p e below s _ _ _ (T59.setTop (mkF m 258 #[.val (.int vc), .val (.int vsel), .val (.int voff), .val (.int vc), .unset, .unset] [(.int (1 : Int32))]))
      refine OGo.on (fun t k => XS.goto Xh60.here hx rfl (pc0 := 258) (pc' := 262) rfl (hb hby at_258) (by decide) (by decide) k) ?_
      show OGo p e below s _ _ _ (T59.setTop (mkF m 262 #[.val (.int vc), .val (.int vsel), .val (.int voff), .val (.int vc), .unset, .unset] [(.int (1 : Int32))]))
      exact OGo.retN Xh60 hx (t := .boolean) hret hlk (by simp) (hb hby at_262) ⟨rfl, Nh60⟩ (by decide) (by decide)
  · refine OGo.on (fun t k => XS.ifNo X0.here hx rfl (hb hby at_5) rfl ((if0 _ _).trans (feq hc56).1) k) ?_
    show OGo p e below s _ _ _ (s₁.setTop (mkF m 8 #[.val (.int vc), .val (.int vsel), .val (.int voff), .val (.int vc), .unset, .unset] []))
    refine OGo.on (fun t k => XS.bipush X0.here hx rfl (hb hby at_8) k) ?_
    show OGo p e below s _ _ _ (s₁.setTop (mkF m 10 #[.val (.int vc), .val (.int vsel), .val (.int voff), .val (.int vc), .unset, .unset] [(.int (32 : Int32))]))
    obtain ⟨T62, h62, k62, X62, e62, E62, A62, st62⟩ := newP X0 hx hZ (hw _ (List.mem_of_getElem? (i := 0) rfl)) e0 (g := (mkF m 10 #[.val (.int vc), .val (.int vsel), .val (.int voff), .val (.int vc), .unset, .unset] [(.int (32 : Int32))])) rfl (hb hby at_10) rfl (by decide) (cap := 32) (by decide) (by decide) (by decide) (by decide)
    obtain ⟨b62, g62⟩ : ∃ z, z = h0.size := ⟨_, rfl⟩
    rw [← g62] at A62 st62
    have ge63 : n0 ≤ b62 := Nat.le_trans Z0 (Nat.le_of_eq g62.symm)
    have Z64 : n0 ≤ h62.size := Nat.le_trans Z0 E62.1
    have V62 : OAL Z h62 b62 .int [(0 : Int32), (0 : Int32), (0 : Int32), (0 : Int32), (0 : Int32), (0 : Int32), (0 : Int32), (0 : Int32), (0 : Int32), (0 : Int32), (0 : Int32), (0 : Int32), (0 : Int32), (0 : Int32), (0 : Int32), (0 : Int32), (0 : Int32), (0 : Int32), (0 : Int32), (0 : Int32), (0 : Int32), (0 : Int32), (0 : Int32), (0 : Int32), (0 : Int32), (0 : Int32), (0 : Int32), (0 : Int32), (0 : Int32), (0 : Int32), (0 : Int32), (0 : Int32)] := OAL.new A62 rfl
    refine OGo.on st62 ?_
    show OGo p e below s _ _ _ (T62.setTop (mkF m 12 #[.val (.int vc), .val (.int vsel), .val (.int voff), .val (.int vc), .unset, .unset] [(.ref b62)]))
    refine OGo.on (fun t k => XS.dup X62.here hx rfl (hb hby at_12) rfl rfl k) ?_
    show OGo p e below s _ _ _ (T62.setTop (mkF m 13 #[.val (.int vc), .val (.int vsel), .val (.int voff), .val (.int vc), .unset, .unset] [(.ref b62), (.ref b62)]))
    refine OGo.on (fun t k => XS.iconst X62.here hx rfl (hb hby at_13) k) ?_
    show OGo p e below s _ _ _ (T62.setTop (mkF m 14 #[.val (.int vc), .val (.int vsel), .val (.int voff), .val (.int vc), .unset, .unset] [(.int (0 : Int32)), (.ref b62), (.ref b62)]))
    refine OGo.on (fun t k => XS.bipush X62.here hx rfl (hb hby at_14) k) ?_
    show OGo p e below s _ _ _ (T62.setTop (mkF m 16 #[.val (.int vc), .val (.int vsel), .val (.int voff), .val (.int vc), .unset, .unset] [(.int (65 : Int32)), (.int (0 : Int32)), (.ref b62), (.ref b62)]))
    obtain ⟨T65, h65, X65, e65, W65, A65, st65⟩ := OAL.stI X62 hx hZ e62 V62 (j := (0 : Int32)) (x := (65 : Int32)) (by decide) (by decide : 0 < 32) (Ls := #[.val (.int vc), .val (.int vsel), .val (.int voff), .val (.int vc), .unset, .unset]) (rest := [(.ref b62)]) (hb hby at_16)
    have Z66 : n0 ≤ h65.size := Nat.le_trans Z64 (Nat.le_of_eq W65.size.symm)
    have N67 := Fr.snoc X65 N0 ge63
    obtain ⟨Lh68, Xh68, Nh68⟩ := own_hide X65 N67
    have V65 : OAL Z h65 b62 .int [(65 : Int32), (0 : Int32), (0 : Int32), (0 : Int32), (0 : Int32), (0 : Int32), (0 : Int32), (0 : Int32), (0 : Int32), (0 : Int32), (0 : Int32), (0 : Int32), (0 : Int32), (0 : Int32), (0 : Int32), (0 : Int32), (0 : Int32), (0 : Int32), (0 : Int32), (0 : Int32), (0 : Int32), (0 : Int32), (0 : Int32), (0 : Int32), (0 : Int32), (0 : Int32), (0 : Int32), (0 : Int32), (0 : Int32), (0 : Int32), (0 : Int32), (0 : Int32)] := A65
    refine OGo.on st65 ?_
    show OGo p e below s _ _ _ (T65.setTop (mkF m 17 #[.val (.int vc), .val (.int vsel), .val (.int voff), .val (.int vc), .unset, .unset] [(.ref b62)]))
    refine OGo.on (fun t k => XS.dup Xh68.here hx rfl (hb hby at_17) rfl rfl k) ?_
    show OGo p e below s _ _ _ (T65.setTop (mkF m 18 #[.val (.int vc), .val (.int vsel), .val (.int voff), .val (.int vc), .unset, .unset] [(.ref b62), (.ref b62)]))
    refine OGo.on (fun t k => XS.iconst Xh68.here hx rfl (hb hby at_18) k) ?_
    show OGo p e below s _ _ _ (T65.setTop (mkF m 19 #[.val (.int vc), .val (.int vsel), .val (.int voff), .val (.int vc), .unset, .unset] [(.int (1 : Int32)), (.ref b62), (.ref b62)]))
    refine OGo.on (fun t k => XS.bipush Xh68.here hx rfl (hb hby at_19) k) ?_
    show OGo p e below s _ _ _ (T65.setTop (mkF m 21 #[.val (.int vc), .val (.int vsel), .val (.int voff), .val (.int vc), .unset, .unset] [(.int (90 : Int32)), (.int (1 : Int32)), (.ref b62), (.ref b62)]))
    obtain ⟨T69, h69, X69, e69, W69, A69, st69⟩ := OAL.stI Xh68 hx hZ e65 V65 (j := (1 : Int32)) (x := (90 : Int32)) (by decide) (by decide : 1 < 32) (Ls := #[.val (.int vc), .val (.int vsel), .val (.int voff), .val (.int vc), .unset, .unset]) (rest := [(.ref b62)]) (hb hby at_21)
    have Z70 : n0 ≤ h69.size := Nat.le_trans Z66 (Nat.le_of_eq W69.size.symm)
    have N71 := Fr.snoc X69 Nh68 ge63
    obtain ⟨Lh72, Xh72, Nh72⟩ := own_hide X69 N71
    have V69 : OAL Z h69 b62 .int [(65 : Int32), (90 : Int32), (0 : Int32), (0 : Int32), (0 : Int32), (0 : Int32), (0 : Int32), (0 : Int32), (0 : Int32), (0 : Int32), (0 : Int32), (0 : Int32), (0 : Int32), (0 : Int32), (0 : Int32), (0 : Int32), (0 : Int32), (0 : Int32), (0 : Int32), (0 : Int32), (0 : Int32), (0 : Int32), (0 : Int32), (0 : Int32), (0 : Int32), (0 : Int32), (0 : Int32), (0 : Int32), (0 : Int32), (0 : Int32), (0 : Int32), (0 : Int32)] := A69
    refine OGo.on st69 ?_
    show OGo p e below s _ _ _ (T69.setTop (mkF m 22 #[.val (.int vc), .val (.int vsel), .val (.int voff), .val (.int vc), .unset, .unset] [(.ref b62)]))
    refine OGo.on (fun t k => XS.dup Xh72.here hx rfl (hb hby at_22) rfl rfl k) ?_
    show OGo p e below s _ _ _ (T69.setTop (mkF m 23 #[.val (.int vc), .val (.int vsel), .val (.int voff), .val (.int vc), .unset, .unset] [(.ref b62), (.ref b62)]))
    refine OGo.on (fun t k => XS.iconst Xh72.here hx rfl (hb hby at_23) k) ?_
    show OGo p e below s _ _ _ (T69.setTop (mkF m 24 #[.val (.int vc), .val (.int vsel), .val (.int voff), .val (.int vc), .unset, .unset] [(.int (2 : Int32)), (.ref b62), (.ref b62)]))
    refine OGo.on (fun t k => XS.bipush Xh72.here hx rfl (hb hby at_24) k) ?_
    show OGo p e below s _ _ _ (T69.setTop (mkF m 26 #[.val (.int vc), .val (.int vsel), .val (.int voff), .val (.int vc), .unset, .unset] [(.int (97 : Int32)), (.int (2 : Int32)), (.ref b62), (.ref b62)]))
    obtain ⟨T73, h73, X73, e73, W73, A73, st73⟩ := OAL.stI Xh72 hx hZ e69 V69 (j := (2 : Int32)) (x := (97 : Int32)) (by decide) (by decide : 2 < 32) (Ls := #[.val (.int vc), .val (.int vsel), .val (.int voff), .val (.int vc), .unset, .unset]) (rest := [(.ref b62)]) (hb hby at_26)
    have Z74 : n0 ≤ h73.size := Nat.le_trans Z70 (Nat.le_of_eq W73.size.symm)
    have N75 := Fr.snoc X73 Nh72 ge63
    obtain ⟨Lh76, Xh76, Nh76⟩ := own_hide X73 N75
    have V73 : OAL Z h73 b62 .int [(65 : Int32), (90 : Int32), (97 : Int32), (0 : Int32), (0 : Int32), (0 : Int32), (0 : Int32), (0 : Int32), (0 : Int32), (0 : Int32), (0 : Int32), (0 : Int32), (0 : Int32), (0 : Int32), (0 : Int32), (0 : Int32), (0 : Int32), (0 : Int32), (0 : Int32), (0 : Int32), (0 : Int32), (0 : Int32), (0 : Int32), (0 : Int32), (0 : Int32), (0 : Int32), (0 : Int32), (0 : Int32), (0 : Int32), (0 : Int32), (0 : Int32), (0 : Int32)] := A73
    refine OGo.on st73 ?_
    show OGo p e below s _ _ _ (T73.setTop (mkF m 27 #[.val (.int vc), .val (.int vsel), .val (.int voff), .val (.int vc), .unset, .unset] [(.ref b62)]))
    refine OGo.on (fun t k => XS.dup Xh76.here hx rfl (hb hby at_27) rfl rfl k) ?_
    show OGo p e below s _ _ _ (T73.setTop (mkF m 28 #[.val (.int vc), .val (.int vsel), .val (.int voff), .val (.int vc), .unset, .unset] [(.ref b62), (.ref b62)]))
    refine OGo.on (fun t k => XS.iconst Xh76.here hx rfl (hb hby at_28) k) ?_
    show OGo p e below s _ _ _ (T73.setTop (mkF m 29 #[.val (.int vc), .val (.int vsel), .val (.int voff), .val (.int vc), .unset, .unset] [(.int (3 : Int32)), (.ref b62), (.ref b62)]))
    refine OGo.on (fun t k => XS.bipush Xh76.here hx rfl (hb hby at_29) k) ?_
    show OGo p e below s _ _ _ (T73.setTop (mkF m 31 #[.val (.int vc), .val (.int vsel), .val (.int voff), .val (.int vc), .unset, .unset] [(.int (122 : Int32)), (.int (3 : Int32)), (.ref b62), (.ref b62)]))
    obtain ⟨T77, h77, X77, e77, W77, A77, st77⟩ := OAL.stI Xh76 hx hZ e73 V73 (j := (3 : Int32)) (x := (122 : Int32)) (by decide) (by decide : 3 < 32) (Ls := #[.val (.int vc), .val (.int vsel), .val (.int voff), .val (.int vc), .unset, .unset]) (rest := [(.ref b62)]) (hb hby at_31)
    have Z78 : n0 ≤ h77.size := Nat.le_trans Z74 (Nat.le_of_eq W77.size.symm)
    have N79 := Fr.snoc X77 Nh76 ge63
    obtain ⟨Lh80, Xh80, Nh80⟩ := own_hide X77 N79
    have V77 : OAL Z h77 b62 .int [(65 : Int32), (90 : Int32), (97 : Int32), (122 : Int32), (0 : Int32), (0 : Int32), (0 : Int32), (0 : Int32), (0 : Int32), (0 : Int32), (0 : Int32), (0 : Int32), (0 : Int32), (0 : Int32), (0 : Int32), (0 : Int32), (0 : Int32), (0 : Int32), (0 : Int32), (0 : Int32), (0 : Int32), (0 : Int32), (0 : Int32), (0 : Int32), (0 : Int32), (0 : Int32), (0 : Int32), (0 : Int32), (0 : Int32), (0 : Int32), (0 : Int32), (0 : Int32)] := A77
    refine OGo.on st77 ?_
    show OGo p e below s _ _ _ (T77.setTop (mkF m 32 #[.val (.int vc), .val (.int vsel), .val (.int voff), .val (.int vc), .unset, .unset] [(.ref b62)]))
    refine OGo.on (fun t k => XS.dup Xh80.here hx rfl (hb hby at_32) rfl rfl k) ?_
    show OGo p e below s _ _ _ (T77.setTop (mkF m 33 #[.val (.int vc), .val (.int vsel), .val (.int voff), .val (.int vc), .unset, .unset] [(.ref b62), (.ref b62)]))
    refine OGo.on (fun t k => XS.iconst Xh80.here hx rfl (hb hby at_33) k) ?_
    show OGo p e below s _ _ _ (T77.setTop (mkF m 34 #[.val (.int vc), .val (.int vsel), .val (.int voff), .val (.int vc), .unset, .unset] [(.int (4 : Int32)), (.ref b62), (.ref b62)]))
    refine OGo.on (fun t k => XS.bipush Xh80.here hx rfl (hb hby at_34) k) ?_
    show OGo p e below s _ _ _ (T77.setTop (mkF m 36 #[.val (.int vc), .val (.int vsel), .val (.int voff), .val (.int vc), .unset, .unset] [(.int (95 : Int32)), (.int (4 : Int32)), (.ref b62), (.ref b62)]))
    obtain ⟨T81, h81, X81, e81, W81, A81, st81⟩ := OAL.stI Xh80 hx hZ e77 V77 (j := (4 : Int32)) (x := (95 : Int32)) (by decide) (by decide : 4 < 32) (Ls := #[.val (.int vc), .val (.int vsel), .val (.int voff), .val (.int vc), .unset, .unset]) (rest := [(.ref b62)]) (hb hby at_36)
    have Z82 : n0 ≤ h81.size := Nat.le_trans Z78 (Nat.le_of_eq W81.size.symm)
    have N83 := Fr.snoc X81 Nh80 ge63
    obtain ⟨Lh84, Xh84, Nh84⟩ := own_hide X81 N83
    have V81 : OAL Z h81 b62 .int [(65 : Int32), (90 : Int32), (97 : Int32), (122 : Int32), (95 : Int32), (0 : Int32), (0 : Int32), (0 : Int32), (0 : Int32), (0 : Int32), (0 : Int32), (0 : Int32), (0 : Int32), (0 : Int32), (0 : Int32), (0 : Int32), (0 : Int32), (0 : Int32), (0 : Int32), (0 : Int32), (0 : Int32), (0 : Int32), (0 : Int32), (0 : Int32), (0 : Int32), (0 : Int32), (0 : Int32), (0 : Int32), (0 : Int32), (0 : Int32), (0 : Int32), (0 : Int32)] := A81
    refine OGo.on st81 ?_
    show OGo p e below s _ _ _ (T81.setTop (mkF m 37 #[.val (.int vc), .val (.int vsel), .val (.int voff), .val (.int vc), .unset, .unset] [(.ref b62)]))
    refine OGo.on (fun t k => XS.dup Xh84.here hx rfl (hb hby at_37) rfl rfl k) ?_
    show OGo p e below s _ _ _ (T81.setTop (mkF m 38 #[.val (.int vc), .val (.int vsel), .val (.int voff), .val (.int vc), .unset, .unset] [(.ref b62), (.ref b62)]))
    refine OGo.on (fun t k => XS.iconst Xh84.here hx rfl (hb hby at_38) k) ?_
    show OGo p e below s _ _ _ (T81.setTop (mkF m 39 #[.val (.int vc), .val (.int vsel), .val (.int voff), .val (.int vc), .unset, .unset] [(.int (5 : Int32)), (.ref b62), (.ref b62)]))
    refine OGo.on (fun t k => XS.sipush Xh84.here hx rfl (hb hby at_39) k) ?_
    show OGo p e below s _ _ _ (T81.setTop (mkF m 42 #[.val (.int vc), .val (.int vsel), .val (.int voff), .val (.int vc), .unset, .unset] [(.int (192 : Int32)), (.int (5 : Int32)), (.ref b62), (.ref b62)]))
    obtain ⟨T85, h85, X85, e85, W85, A85, st85⟩ := OAL.stI Xh84 hx hZ e81 V81 (j := (5 : Int32)) (x := (192 : Int32)) (by decide) (by decide : 5 < 32) (Ls := #[.val (.int vc), .val (.int vsel), .val (.int voff), .val (.int vc), .unset, .unset]) (rest := [(.ref b62)]) (hb hby at_42)
    have Z86 : n0 ≤ h85.size := Nat.le_trans Z82 (Nat.le_of_eq W85.size.symm)
    have N87 := Fr.snoc X85 Nh84 ge63
    obtain ⟨Lh88, Xh88, Nh88⟩ := own_hide X85 N87
    have V85 : OAL Z h85 b62 .int [(65 : Int32), (90 : Int32), (97 : Int32), (122 : Int32), (95 : Int32), (192 : Int32), (0 : Int32), (0 : Int32), (0 : Int32), (0 : Int32), (0 : Int32), (0 : Int32), (0 : Int32), (0 : Int32), (0 : Int32), (0 : Int32), (0 : Int32), (0 : Int32), (0 : Int32), (0 : Int32), (0 : Int32), (0 : Int32), (0 : Int32), (0 : Int32), (0 : Int32), (0 : Int32), (0 : Int32), (0 : Int32), (0 : Int32), (0 : Int32), (0 : Int32), (0 : Int32)] := A85
    refine OGo.on st85 ?_
    show OGo p e below s _ _ _ (T85.setTop (mkF m 43 #[.val (.int vc), .val (.int vsel), .val (.int voff), .val (.int vc), .unset, .unset] [(.ref b62)]))
    refine OGo.on (fun t k => XS.dup Xh88.here hx rfl (hb hby at_43) rfl rfl k) ?_
    show OGo p e below s _ _ _ (T85.setTop (mkF m 44 #[.val (.int vc), .val (.int vsel), .val (.int voff), .val (.int vc), .unset, .unset] [(.ref b62), (.ref b62)]))
    refine OGo.on (fun t k => XS.bipush Xh88.here hx rfl (hb hby at_44) k) ?_
    show OGo p e below s _ _ _ (T85.setTop (mkF m 46 #[.val (.int vc), .val (.int vsel), .val (.int voff), .val (.int vc), .unset, .unset] [(.int (6 : Int32)), (.ref b62), (.ref b62)]))
    refine OGo.on (fun t k => XS.sipush Xh88.here hx rfl (hb hby at_46) k) ?_
    show OGo p e below s _ _ _ (T85.setTop (mkF m 49 #[.val (.int vc), .val (.int vsel), .val (.int voff), .val (.int vc), .unset, .unset] [(.int (214 : Int32)), (.int (6 : Int32)), (.ref b62), (.ref b62)]))
    obtain ⟨T89, h89, X89, e89, W89, A89, st89⟩ := OAL.stI Xh88 hx hZ e85 V85 (j := (6 : Int32)) (x := (214 : Int32)) (by decide) (by decide : 6 < 32) (Ls := #[.val (.int vc), .val (.int vsel), .val (.int voff), .val (.int vc), .unset, .unset]) (rest := [(.ref b62)]) (hb hby at_49)
    have Z90 : n0 ≤ h89.size := Nat.le_trans Z86 (Nat.le_of_eq W89.size.symm)
    have N91 := Fr.snoc X89 Nh88 ge63
    obtain ⟨Lh92, Xh92, Nh92⟩ := own_hide X89 N91
    have V89 : OAL Z h89 b62 .int [(65 : Int32), (90 : Int32), (97 : Int32), (122 : Int32), (95 : Int32), (192 : Int32), (214 : Int32), (0 : Int32), (0 : Int32), (0 : Int32), (0 : Int32), (0 : Int32), (0 : Int32), (0 : Int32), (0 : Int32), (0 : Int32), (0 : Int32), (0 : Int32), (0 : Int32), (0 : Int32), (0 : Int32), (0 : Int32), (0 : Int32), (0 : Int32), (0 : Int32), (0 : Int32), (0 : Int32), (0 : Int32), (0 : Int32), (0 : Int32), (0 : Int32), (0 : Int32)] := A89
    refine OGo.on st89 ?_
    show OGo p e below s _ _ _ (T89.setTop (mkF m 50 #[.val (.int vc), .val (.int vsel), .val (.int voff), .val (.int vc), .unset, .unset] [(.ref b62)]))
    refine OGo.on (fun t k => XS.dup Xh92.here hx rfl (hb hby at_50) rfl rfl k) ?_
    show OGo p e below s _ _ _ (T89.setTop (mkF m 51 #[.val (.int vc), .val (.int vsel), .val (.int voff), .val (.int vc), .unset, .unset] [(.ref b62), (.ref b62)]))
    refine OGo.on (fun t k => XS.bipush Xh92.here hx rfl (hb hby at_51) k) ?_
    show OGo p e below s _ _ _ (T89.setTop (mkF m 53 #[.val (.int vc), .val (.int vsel), .val (.int voff), .val (.int vc), .unset, .unset] [(.int (7 : Int32)), (.ref b62), (.ref b62)]))
    refine OGo.on (fun t k => XS.sipush Xh92.here hx rfl (hb hby at_53) k) ?_
    show OGo p e below s _ _ _ (T89.setTop (mkF m 56 #[.val (.int vc), .val (.int vsel), .val (.int voff), .val (.int vc), .unset, .unset] [(.int (216 : Int32)), (.int (7 : Int32)), (.ref b62), (.ref b62)]))
    obtain ⟨T93, h93, X93, e93, W93, A93, st93⟩ := OAL.stI Xh92 hx hZ e89 V89 (j := (7 : Int32)) (x := (216 : Int32)) (by decide) (by decide : 7 < 32) (Ls := #[.val (.int vc), .val (.int vsel), .val (.int voff), .val (.int vc), .unset, .unset]) (rest := [(.ref b62)]) (hb hby at_56)
    have Z94 : n0 ≤ h93.size := Nat.le_trans Z90 (Nat.le_of_eq W93.size.symm)
    have N95 := Fr.snoc X93 Nh92 ge63
    obtain ⟨Lh96, Xh96, Nh96⟩ := own_hide X93 N95
    have V93 : OAL Z h93 b62 .int [(65 : Int32), (90 : Int32), (97 : Int32), (122 : Int32), (95 : Int32), (192 : Int32), (214 : Int32), (216 : Int32), (0 : Int32), (0 : Int32), (0 : Int32), (0 : Int32), (0 : Int32), (0 : Int32), (0 : Int32), (0 : Int32), (0 : Int32), (0 : Int32), (0 : Int32), (0 : Int32), (0 : Int32), (0 : Int32), (0 : Int32), (0 : Int32), (0 : Int32), (0 : Int32), (0 : Int32), (0 : Int32), (0 : Int32), (0 : Int32), (0 : Int32), (0 : Int32)] := A93
    refine OGo.on st93 ?_
    show OGo p e below s _ _ _ (T93.setTop (mkF m 57 #[.val (.int vc), .val (.int vsel), .val (.int voff), .val (.int vc), .unset, .unset] [(.ref b62)]))
    refine OGo.on (fun t k => XS.dup Xh96.here hx rfl (hb hby at_57) rfl rfl k) ?_
    show OGo p e below s _ _ _ (T93.setTop (mkF m 58 #[.val (.int vc), .val (.int vsel), .val (.int voff), .val (.int vc), .unset, .unset] [(.ref b62), (.ref b62)]))
    refine OGo.on (fun t k => XS.bipush Xh96.here hx rfl (hb hby at_58) k) ?_
    show OGo p e below s _ _ _ (T93.setTop (mkF m 60 #[.val (.int vc), .val (.int vsel), .val (.int voff), .val (.int vc), .unset, .unset] [(.int (8 : Int32)), (.ref b62), (.ref b62)]))
    refine OGo.on (fun t k => XS.sipush Xh96.here hx rfl (hb hby at_60) k) ?_
    show OGo p e below s _ _ _ (T93.setTop (mkF m 63 #[.val (.int vc), .val (.int vsel), .val (.int voff), .val (.int vc), .unset, .unset] [(.int (246 : Int32)), (.int (8 : Int32)), (.ref b62), (.ref b62)]))
    obtain ⟨T97, h97, X97, e97, W97, A97, st97⟩ := OAL.stI Xh96 hx hZ e93 V93 (j := (8 : Int32)) (x := (246 : Int32)) (by decide) (by decide : 8 < 32) (Ls := #[.val (.int vc), .val (.int vsel), .val (.int voff), .val (.int vc), .unset, .unset]) (rest := [(.ref b62)]) (hb hby at_63)
    have Z98 : n0 ≤ h97.size := Nat.le_trans Z94 (Nat.le_of_eq W97.size.symm)
    have N99 := Fr.snoc X97 Nh96 ge63
    obtain ⟨Lh100, Xh100, Nh100⟩ := own_hide X97 N99
    have V97 : OAL Z h97 b62 .int [(65 : Int32), (90 : Int32), (97 : Int32), (122 : Int32), (95 : Int32), (192 : Int32), (214 : Int32), (216 : Int32), (246 : Int32), (0 : Int32), (0 : Int32), (0 : Int32), (0 : Int32), (0 : Int32), (0 : Int32), (0 : Int32), (0 : Int32), (0 : Int32), (0 : Int32), (0 : Int32), (0 : Int32), (0 : Int32), (0 : Int32), (0 : Int32), (0 : Int32), (0 : Int32), (0 : Int32), (0 : Int32), (0 : Int32), (0 : Int32), (0 : Int32), (0 : Int32)] := A97
    refine OGo.on st97 ?_
    show OGo p e below s _ _ _ (T97.setTop (mkF m 64 #[.val (.int vc), .val (.int vsel), .val (.int voff), .val (.int vc), .unset, .unset] [(.ref b62)]))
    refine OGo.on (fun t k => XS.dup Xh100.here hx rfl (hb hby at_64) rfl rfl k) ?_
    show OGo p e below s _ _ _ (T97.setTop (mkF m 65 #[.val (.int vc), .val (.int vsel), .val (.int voff), .val (.int vc), .unset, .unset] [(.ref b62), (.ref b62)]))
    refine OGo.on (fun t k => XS.bipush Xh100.here hx rfl (hb hby at_65) k) ?_
    show OGo p e below s _ _ _ (T97.setTop (mkF m 67 #[.val (.int vc), .val (.int vsel), .val (.int voff), .val (.int vc), .unset, .unset] [(.int (9 : Int32)), (.ref b62), (.ref b62)]))
    refine OGo.on (fun t k => XS.sipush Xh100.here hx rfl (hb hby at_67) k) ?_
    show OGo p e below s _ _ _ (T97.setTop (mkF m 70 #[.val (.int vc), .val (.int vsel), .val (.int voff), .val (.int vc), .unset, .unset] [(.int (248 : Int32)), (.int (9 : Int32)), (.ref b62), (.ref b62)]))
    obtain ⟨T101, h101, X101, e101, W101, A101, st101⟩ := OAL.stI Xh100 hx hZ e97 V97 (j := (9 : Int32)) (x := (248 : Int32)) (by decide) (by decide : 9 < 32) (Ls := #[.val (.int vc), .val (.int vsel), .val (.int voff), .val (.int vc), .unset, .unset]) (rest := [(.ref b62)]) (hb hby at_70)
    have Z102 : n0 ≤ h101.size := Nat.le_trans Z98 (Nat.le_of_eq W101.size.symm)
    have N103 := Fr.snoc X101 Nh100 ge63
    obtain ⟨Lh104, Xh104, Nh104⟩ := own_hide X101 N103
    have V101 : OAL Z h101 b62 .int [(65 : Int32), (90 : Int32), (97 : Int32), (122 : Int32), (95 : Int32), (192 : Int32), (214 : Int32), (216 : Int32), (246 : Int32), (248 : Int32), (0 : Int32), (0 : Int32), (0 : Int32), (0 : Int32), (0 : Int32), (0 : Int32), (0 : Int32), (0 : Int32), (0 : Int32), (0 : Int32), (0 : Int32), (0 : Int32), (0 : Int32), (0 : Int32), (0 : Int32), (0 : Int32), (0 : Int32), (0 : Int32), (0 : Int32), (0 : Int32), (0 : Int32), (0 : Int32)] := A101
    refine OGo.on st101 ?_
    show OGo p e below s _ _ _ (T101.setTop (mkF m 71 #[.val (.int vc), .val (.int vsel), .val (.int voff), .val (.int vc), .unset, .unset] [(.ref b62)]))
    refine OGo.on (fun t k => XS.dup Xh104.here hx rfl (hb hby at_71) rfl rfl k) ?_
    show OGo p e below s _ _ _ (T101.setTop (mkF m 72 #[.val (.int vc), .val (.int vsel), .val (.int voff), .val (.int vc), .unset, .unset] [(.ref b62), (.ref b62)]))
    refine OGo.on (fun t k => XS.bipush Xh104.here hx rfl (hb hby at_72) k) ?_
    show OGo p e below s _ _ _ (T101.setTop (mkF m 74 #[.val (.int vc), .val (.int vsel), .val (.int voff), .val (.int vc), .unset, .unset] [(.int (10 : Int32)), (.ref b62), (.ref b62)]))
    refine OGo.on (fun t k => XS.sipush Xh104.here hx rfl (hb hby at_74) k) ?_
    show OGo p e below s _ _ _ (T101.setTop (mkF m 77 #[.val (.int vc), .val (.int vsel), .val (.int voff), .val (.int vc), .unset, .unset] [(.int (767 : Int32)), (.int (10 : Int32)), (.ref b62), (.ref b62)]))
    obtain ⟨T105, h105, X105, e105, W105, A105, st105⟩ := OAL.stI Xh104 hx hZ e101 V101 (j := (10 : Int32)) (x := (767 : Int32)) (by decide) (by decide : 10 < 32) (Ls := #[.val (.int vc), .val (.int vsel), .val (.int voff), .val (.int vc), .unset, .unset]) (rest := [(.ref b62)]) (hb hby at_77)
    have Z106 : n0 ≤ h105.size := Nat.le_trans Z102 (Nat.le_of_eq W105.size.symm)
    have N107 := Fr.snoc X105 Nh104 ge63
    obtain ⟨Lh108, Xh108, Nh108⟩ := own_hide X105 N107
    have V105 : OAL Z h105 b62 .int [(65 : Int32), (90 : Int32), (97 : Int32), (122 : Int32), (95 : Int32), (192 : Int32), (214 : Int32), (216 : Int32), (246 : Int32), (248 : Int32), (767 : Int32), (0 : Int32), (0 : Int32), (0 : Int32), (0 : Int32), (0 : Int32), (0 : Int32), (0 : Int32), (0 : Int32), (0 : Int32), (0 : Int32), (0 : Int32), (0 : Int32), (0 : Int32), (0 : Int32), (0 : Int32), (0 : Int32), (0 : Int32), (0 : Int32), (0 : Int32), (0 : Int32), (0 : Int32)] := A105
    refine OGo.on st105 ?_
    show OGo p e below s _ _ _ (T105.setTop (mkF m 78 #[.val (.int vc), .val (.int vsel), .val (.int voff), .val (.int vc), .unset, .unset] [(.ref b62)]))
    refine OGo.on (fun t k => XS.dup Xh108.here hx rfl (hb hby at_78) rfl rfl k) ?_
    show OGo p e below s _ _ _ (T105.setTop (mkF m 79 #[.val (.int vc), .val (.int vsel), .val (.int voff), .val (.int vc), .unset, .unset] [(.ref b62), (.ref b62)]))
    refine OGo.on (fun t k => XS.bipush Xh108.here hx rfl (hb hby at_79) k) ?_
    show OGo p e below s _ _ _ (T105.setTop (mkF m 81 #[.val (.int vc), .val (.int vsel), .val (.int voff), .val (.int vc), .unset, .unset] [(.int (11 : Int32)), (.ref b62), (.ref b62)]))
    refine OGo.on (fun t k => XS.sipush Xh108.here hx rfl (hb hby at_81) k) ?_
    show OGo p e below s _ _ _ (T105.setTop (mkF m 84 #[.val (.int vc), .val (.int vsel), .val (.int voff), .val (.int vc), .unset, .unset] [(.int (880 : Int32)), (.int (11 : Int32)), (.ref b62), (.ref b62)]))
    obtain ⟨T109, h109, X109, e109, W109, A109, st109⟩ := OAL.stI Xh108 hx hZ e105 V105 (j := (11 : Int32)) (x := (880 : Int32)) (by decide) (by decide : 11 < 32) (Ls := #[.val (.int vc), .val (.int vsel), .val (.int voff), .val (.int vc), .unset, .unset]) (rest := [(.ref b62)]) (hb hby at_84)
    have Z110 : n0 ≤ h109.size := Nat.le_trans Z106 (Nat.le_of_eq W109.size.symm)
    have N111 := Fr.snoc X109 Nh108 ge63
    obtain ⟨Lh112, Xh112, Nh112⟩ := own_hide X109 N111
    have V109 : OAL Z h109 b62 .int [(65 : Int32), (90 : Int32), (97 : Int32), (122 : Int32), (95 : Int32), (192 : Int32), (214 : Int32), (216 : Int32), (246 : Int32), (248 : Int32), (767 : Int32), (880 : Int32), (0 : Int32), (0 : Int32), (0 : Int32), (0 : Int32), (0 : Int32), (0 : Int32), (0 : Int32), (0 : Int32), (0 : Int32), (0 : Int32), (0 : Int32), (0 : Int32), (0 : Int32), (0 : Int32), (0 : Int32), (0 : Int32), (0 : Int32), (0 : Int32), (0 : Int32), (0 : Int32)] := A109
    refine OGo.on st109 ?_
    show OGo p e below s _ _ _ (T109.setTop (mkF m 85 #[.val (.int vc), .val (.int vsel), .val (.int voff), .val (.int vc), .unset, .unset] [(.ref b62)]))
    refine OGo.on (fun t k => XS.dup Xh112.here hx rfl (hb hby at_85) rfl rfl k) ?_
    show OGo p e below s _ _ _ (T109.setTop (mkF m 86 #[.val (.int vc), .val (.int vsel), .val (.int voff), .val (.int vc), .unset, .unset] [(.ref b62), (.ref b62)]))
    refine OGo.on (fun t k => XS.bipush Xh112.here hx rfl (hb hby at_86) k) ?_
    show OGo p e below s _ _ _ (T109.setTop (mkF m 88 #[.val (.int vc), .val (.int vsel), .val (.int voff), .val (.int vc), .unset, .unset] [(.int (12 : Int32)), (.ref b62), (.ref b62)]))
    refine OGo.on (fun t k => XS.sipush Xh112.here hx rfl (hb hby at_88) k) ?_
    show OGo p e below s _ _ _ (T109.setTop (mkF m 91 #[.val (.int vc), .val (.int vsel), .val (.int voff), .val (.int vc), .unset, .unset] [(.int (893 : Int32)), (.int (12 : Int32)), (.ref b62), (.ref b62)]))
    obtain ⟨T113, h113, X113, e113, W113, A113, st113⟩ := OAL.stI Xh112 hx hZ e109 V109 (j := (12 : Int32)) (x := (893 : Int32)) (by decide) (by decide : 12 < 32) (Ls := #[.val (.int vc), .val (.int vsel), .val (.int voff), .val (.int vc), .unset, .unset]) (rest := [(.ref b62)]) (hb hby at_91)
    have Z114 : n0 ≤ h113.size := Nat.le_trans Z110 (Nat.le_of_eq W113.size.symm)
    have N115 := Fr.snoc X113 Nh112 ge63
    obtain ⟨Lh116, Xh116, Nh116⟩ := own_hide X113 N115
    have V113 : OAL Z h113 b62 .int [(65 : Int32), (90 : Int32), (97 : Int32), (122 : Int32), (95 : Int32), (192 : Int32), (214 : Int32), (216 : Int32), (246 : Int32), (248 : Int32), (767 : Int32), (880 : Int32), (893 : Int32), (0 : Int32), (0 : Int32), (0 : Int32), (0 : Int32), (0 : Int32), (0 : Int32), (0 : Int32), (0 : Int32), (0 : Int32), (0 : Int32), (0 : Int32), (0 : Int32), (0 : Int32), (0 : Int32), (0 : Int32), (0 : Int32), (0 : Int32), (0 : Int32), (0 : Int32)] := A113
    refine OGo.on st113 ?_
    show OGo p e below s _ _ _ (T113.setTop (mkF m 92 #[.val (.int vc), .val (.int vsel), .val (.int voff), .val (.int vc), .unset, .unset] [(.ref b62)]))
    refine OGo.on (fun t k => XS.dup Xh116.here hx rfl (hb hby at_92) rfl rfl k) ?_
    show OGo p e below s _ _ _ (T113.setTop (mkF m 93 #[.val (.int vc), .val (.int vsel), .val (.int voff), .val (.int vc), .unset, .unset] [(.ref b62), (.ref b62)]))
    refine OGo.on (fun t k => XS.bipush Xh116.here hx rfl (hb hby at_93) k) ?_
    show OGo p e below s _ _ _ (T113.setTop (mkF m 95 #[.val (.int vc), .val (.int vsel), .val (.int voff), .val (.int vc), .unset, .unset] [(.int (13 : Int32)), (.ref b62), (.ref b62)]))
    refine OGo.on (fun t k => XS.sipush Xh116.here hx rfl (hb hby at_95) k) ?_
    show OGo p e below s _ _ _ (T113.setTop (mkF m 98 #[.val (.int vc), .val (.int vsel), .val (.int voff), .val (.int vc), .unset, .unset] [(.int (895 : Int32)), (.int (13 : Int32)), (.ref b62), (.ref b62)]))
    obtain ⟨T117, h117, X117, e117, W117, A117, st117⟩ := OAL.stI Xh116 hx hZ e113 V113 (j := (13 : Int32)) (x := (895 : Int32)) (by decide) (by decide : 13 < 32) (Ls := #[.val (.int vc), .val (.int vsel), .val (.int voff), .val (.int vc), .unset, .unset]) (rest := [(.ref b62)]) (hb hby at_98)
    have Z118 : n0 ≤ h117.size := Nat.le_trans Z114 (Nat.le_of_eq W117.size.symm)
    have N119 := Fr.snoc X117 Nh116 ge63
    obtain ⟨Lh120, Xh120, Nh120⟩ := own_hide X117 N119
    have V117 : OAL Z h117 b62 .int [(65 : Int32), (90 : Int32), (97 : Int32), (122 : Int32), (95 : Int32), (192 : Int32), (214 : Int32), (216 : Int32), (246 : Int32), (248 : Int32), (767 : Int32), (880 : Int32), (893 : Int32), (895 : Int32), (0 : Int32), (0 : Int32), (0 : Int32), (0 : Int32), (0 : Int32), (0 : Int32), (0 : Int32), (0 : Int32), (0 : Int32), (0 : Int32), (0 : Int32), (0 : Int32), (0 : Int32), (0 : Int32), (0 : Int32), (0 : Int32), (0 : Int32), (0 : Int32)] := A117
    refine OGo.on st117 ?_
    show OGo p e below s _ _ _ (T117.setTop (mkF m 99 #[.val (.int vc), .val (.int vsel), .val (.int voff), .val (.int vc), .unset, .unset] [(.ref b62)]))
    refine OGo.on (fun t k => XS.dup Xh120.here hx rfl (hb hby at_99) rfl rfl k) ?_
    show OGo p e below s _ _ _ (T117.setTop (mkF m 100 #[.val (.int vc), .val (.int vsel), .val (.int voff), .val (.int vc), .unset, .unset] [(.ref b62), (.ref b62)]))
    refine OGo.on (fun t k => XS.bipush Xh120.here hx rfl (hb hby at_100) k) ?_
    show OGo p e below s _ _ _ (T117.setTop (mkF m 102 #[.val (.int vc), .val (.int vsel), .val (.int voff), .val (.int vc), .unset, .unset] [(.int (14 : Int32)), (.ref b62), (.ref b62)]))
    refine OGo.on (fun t k => XS.sipush Xh120.here hx rfl (hb hby at_102) k) ?_
    show OGo p e below s _ _ _ (T117.setTop (mkF m 105 #[.val (.int vc), .val (.int vsel), .val (.int voff), .val (.int vc), .unset, .unset] [(.int (8191 : Int32)), (.int (14 : Int32)), (.ref b62), (.ref b62)]))
    obtain ⟨T121, h121, X121, e121, W121, A121, st121⟩ := OAL.stI Xh120 hx hZ e117 V117 (j := (14 : Int32)) (x := (8191 : Int32)) (by decide) (by decide : 14 < 32) (Ls := #[.val (.int vc), .val (.int vsel), .val (.int voff), .val (.int vc), .unset, .unset]) (rest := [(.ref b62)]) (hb hby at_105)
    have Z122 : n0 ≤ h121.size := Nat.le_trans Z118 (Nat.le_of_eq W121.size.symm)
    have N123 := Fr.snoc X121 Nh120 ge63
    obtain ⟨Lh124, Xh124, Nh124⟩ := own_hide X121 N123
    have V121 : OAL Z h121 b62 .int [(65 : Int32), (90 : Int32), (97 : Int32), (122 : Int32), (95 : Int32), (192 : Int32), (214 : Int32), (216 : Int32), (246 : Int32), (248 : Int32), (767 : Int32), (880 : Int32), (893 : Int32), (895 : Int32), (8191 : Int32), (0 : Int32), (0 : Int32), (0 : Int32), (0 : Int32), (0 : Int32), (0 : Int32), (0 : Int32), (0 : Int32), (0 : Int32), (0 : Int32), (0 : Int32), (0 : Int32), (0 : Int32), (0 : Int32), (0 : Int32), (0 : Int32), (0 : Int32)] := A121
    refine OGo.on st121 ?_
    show OGo p e below s _ _ _ (T121.setTop (mkF m 106 #[.val (.int vc), .val (.int vsel), .val (.int voff), .val (.int vc), .unset, .unset] [(.ref b62)]))
    refine OGo.on (fun t k => XS.dup Xh124.here hx rfl (hb hby at_106) rfl rfl k) ?_
    show OGo p e below s _ _ _ (T121.setTop (mkF m 107 #[.val (.int vc), .val (.int vsel), .val (.int voff), .val (.int vc), .unset, .unset] [(.ref b62), (.ref b62)]))
    refine OGo.on (fun t k => XS.bipush Xh124.here hx rfl (hb hby at_107) k) ?_
    show OGo p e below s _ _ _ (T121.setTop (mkF m 109 #[.val (.int vc), .val (.int vsel), .val (.int voff), .val (.int vc), .unset, .unset] [(.int (15 : Int32)), (.ref b62), (.ref b62)]))
    refine OGo.on (fun t k => XS.sipush Xh124.here hx rfl (hb hby at_109) k) ?_
    show OGo p e below s _ _ _ (T121.setTop (mkF m 112 #[.val (.int vc), .val (.int vsel), .val (.int voff), .val (.int vc), .unset, .unset] [(.int (8204 : Int32)), (.int (15 : Int32)), (.ref b62), (.ref b62)]))
    obtain ⟨T125, h125, X125, e125, W125, A125, st125⟩ := OAL.stI Xh124 hx hZ e121 V121 (j := (15 : Int32)) (x := (8204 : Int32)) (by decide) (by decide : 15 < 32) (Ls := #[.val (.int vc), .val (.int vsel), .val (.int voff), .val (.int vc), .unset, .unset]) (rest := [(.ref b62)]) (hb hby at_112)
    have Z126 : n0 ≤ h125.size := Nat.le_trans Z122 (Nat.le_of_eq W125.size.symm)
    have N127 := Fr.snoc X125 Nh124 ge63
    obtain ⟨Lh128, Xh128, Nh128⟩ := own_hide X125 N127
    have V125 : OAL Z h125 b62 .int [(65 : Int32), (90 : Int32), (97 : Int32), (122 : Int32), (95 : Int32), (192 : Int32), (214 : Int32), (216 : Int32), (246 : Int32), (248 : Int32), (767 : Int32), (880 : Int32), (893 : Int32), (895 : Int32), (8191 : Int32), (8204 : Int32), (0 : Int32), (0 : Int32), (0 : Int32), (0 : Int32), (0 : Int32), (0 : Int32), (0 : Int32), (0 : Int32), (0 : Int32), (0 : Int32), (0 : Int32), (0 : Int32), (0 : Int32), (0 : Int32), (0 : Int32), (0 : Int32)] := A125
    refine OGo.on st125 ?_
    show OGo p e below s _ _ _ (T125.setTop (mkF m 113 #[.val (.int vc), .val (.int vsel), .val (.int voff), .val (.int vc), .unset, .unset] [(.ref b62)]))
    refine OGo.on (fun t k => XS.dup Xh128.here hx rfl (hb hby at_113) rfl rfl k) ?_
    show OGo p e below s _ _ _ (T125.setTop (mkF m 114 #[.val (.int vc), .val (.int vsel), .val (.int voff), .val (.int vc), .unset, .unset] [(.ref b62), (.ref b62)]))
    refine OGo.on (fun t k => XS.bipush Xh128.here hx rfl (hb hby at_114) k) ?_
    show OGo p e below s _ _ _ (T125.setTop (mkF m 116 #[.val (.int vc), .val (.int vsel), .val (.int voff), .val (.int vc), .unset, .unset] [(.int (16 : Int32)), (.ref b62), (.ref b62)]))
    refine OGo.on (fun t k => XS.sipush Xh128.here hx rfl (hb hby at_116) k) ?_
    show OGo p e below s _ _ _ (T125.setTop (mkF m 119 #[.val (.int vc), .val (.int vsel), .val (.int voff), .val (.int vc), .unset, .unset] [(.int (8205 : Int32)), (.int (16 : Int32)), (.ref b62), (.ref b62)]))
    obtain ⟨T129, h129, X129, e129, W129, A129, st129⟩ := OAL.stI Xh128 hx hZ e125 V125 (j := (16 : Int32)) (x := (8205 : Int32)) (by decide) (by decide : 16 < 32) (Ls := #[.val (.int vc), .val (.int vsel), .val (.int voff), .val (.int vc), .unset, .unset]) (rest := [(.ref b62)]) (hb hby at_119)
    have Z130 : n0 ≤ h129.size := Nat.le_trans Z126 (Nat.le_of_eq W129.size.symm)
    have N131 := Fr.snoc X129 Nh128 ge63
    obtain ⟨Lh132, Xh132, Nh132⟩ := own_hide X129 N131
    have V129 : OAL Z h129 b62 .int [(65 : Int32), (90 : Int32), (97 : Int32), (122 : Int32), (95 : Int32), (192 : Int32), (214 : Int32), (216 : Int32), (246 : Int32), (248 : Int32), (767 : Int32), (880 : Int32), (893 : Int32), (895 : Int32), (8191 : Int32), (8204 : Int32), (8205 : Int32), (0 : Int32), (0 : Int32), (0 : Int32), (0 : Int32), (0 : Int32), (0 : Int32), (0 : Int32), (0 : Int32), (0 : Int32), (0 : Int32), (0 : Int32), (0 : Int32), (0 : Int32), (0 : Int32), (0 : Int32)] := A129
    refine OGo.on st129 ?_
    show OGo p e below s _ _ _ (T129.setTop (mkF m 120 #[.val (.int vc), .val (.int vsel), .val (.int voff), .val (.int vc), .unset, .unset] [(.ref b62)]))
    refine OGo.on (fun t k => XS.dup Xh132.here hx rfl (hb hby at_120) rfl rfl k) ?_
    show OGo p e below s _ _ _ (T129.setTop (mkF m 121 #[.val (.int vc), .val (.int vsel), .val (.int voff), .val (.int vc), .unset, .unset] [(.ref b62), (.ref b62)]))
    refine OGo.on (fun t k => XS.bipush Xh132.here hx rfl (hb hby at_121) k) ?_
    show OGo p e below s _ _ _ (T129.setTop (mkF m 123 #[.val (.int vc), .val (.int vsel), .val (.int voff), .val (.int vc), .unset, .unset] [(.int (17 : Int32)), (.ref b62), (.ref b62)]))
    refine OGo.on (fun t k => XS.sipush Xh132.here hx rfl (hb hby at_123) k) ?_
    show OGo p e below s _ _ _ (T129.setTop (mkF m 126 #[.val (.int vc), .val (.int vsel), .val (.int voff), .val (.int vc), .unset, .unset] [(.int (8304 : Int32)), (.int (17 : Int32)), (.ref b62), (.ref b62)]))
    obtain ⟨T133, h133, X133, e133, W133, A133, st133⟩ := OAL.stI Xh132 hx hZ e129 V129 (j := (17 : Int32)) (x := (8304 : Int32)) (by decide) (by decide : 17 < 32) (Ls := #[.val (.int vc), .val (.int vsel), .val (.int voff), .val (.int vc), .unset, .unset]) (rest := [(.ref b62)]) (hb hby at_126)
    have Z134 : n0 ≤ h133.size := Nat.le_trans Z130 (Nat.le_of_eq W133.size.symm)
    have N135 := Fr.snoc X133 Nh132 ge63
    obtain ⟨Lh136, Xh136, Nh136⟩ := own_hide X133 N135
    have V133 : OAL Z h133 b62 .int [(65 : Int32), (90 : Int32), (97 : Int32), (122 : Int32), (95 : Int32), (192 : Int32), (214 : Int32), (216 : Int32), (246 : Int32), (248 : Int32), (767 : Int32), (880 : Int32), (893 : Int32), (895 : Int32), (8191 : Int32), (8204 : Int32), (8205 : Int32), (8304 : Int32), (0 : Int32), (0 : Int32), (0 : Int32), (0 : Int32), (0 : Int32), (0 : Int32), (0 : Int32), (0 : Int32), (0 : Int32), (0 : Int32), (0 : Int32), (0 : Int32), (0 : Int32), (0 : Int32)] := A133
    refine OGo.on st133 ?_
    show OGo p e below s _ _ _ (T133.setTop (mkF m 127 #[.val (.int vc), .val (.int vsel), .val (.int voff), .val (.int vc), .unset, .unset] [(.ref b62)]))
    refine OGo.on (fun t k => XS.dup Xh136.here hx rfl (hb hby at_127) rfl rfl k) ?_
    show OGo p e below s _ _ _ (T133.setTop (mkF m 128 #[.val (.int vc), .val (.int vsel), .val (.int voff), .val (.int vc), .unset, .unset] [(.ref b62), (.ref b62)]))
    refine OGo.on (fun t k => XS.bipush Xh136.here hx rfl (hb hby at_128) k) ?_
    show OGo p e below s _ _ _ (T133.setTop (mkF m 130 #[.val (.int vc), .val (.int vsel), .val (.int voff), .val (.int vc), .unset, .unset] [(.int (18 : Int32)), (.ref b62), (.ref b62)]))
    refine OGo.on (fun t k => XS.sipush Xh136.here hx rfl (hb hby at_130) k) ?_
    show OGo p e below s _ _ _ (T133.setTop (mkF m 133 #[.val (.int vc), .val (.int vsel), .val (.int voff), .val (.int vc), .unset, .unset] [(.int (8591 : Int32)), (.int (18 : Int32)), (.ref b62), (.ref b62)]))
    obtain ⟨T137, h137, X137, e137, W137, A137, st137⟩ := OAL.stI Xh136 hx hZ e133 V133 (j := (18 : Int32)) (x := (8591 : Int32)) (by decide) (by decide : 18 < 32) (Ls := #[.val (.int vc), .val (.int vsel), .val (.int voff), .val (.int vc), .unset, .unset]) (rest := [(.ref b62)]) (hb hby at_133)
    have Z138 : n0 ≤ h137.size := Nat.le_trans Z134 (Nat.le_of_eq W137.size.symm)
    have N139 := Fr.snoc X137 Nh136 ge63
    obtain ⟨Lh140, Xh140, Nh140⟩ := own_hide X137 N139
    have V137 : OAL Z h137 b62 .int [(65 : Int32), (90 : Int32), (97 : Int32), (122 : Int32), (95 : Int32), (192 : Int32), (214 : Int32), (216 : Int32), (246 : Int32), (248 : Int32), (767 : Int32), (880 : Int32), (893 : Int32), (895 : Int32), (8191 : Int32), (8204 : Int32), (8205 : Int32), (8304 : Int32), (8591 : Int32), (0 : Int32), (0 : Int32), (0 : Int32), (0 : Int32), (0 : Int32), (0 : Int32), (0 : Int32), (0 : Int32), (0 : Int32), (0 : Int32), (0 : Int32), (0 : Int32), (0 : Int32)] := A137
    refine OGo.on st137 ?_
    show OGo p e below s _ _ _ (T137.setTop (mkF m 134 #[.val (.int vc), .val (.int vsel), .val (.int voff), .val (.int vc), .unset, .unset] [(.ref b62)]))
    refine OGo.on (fun t k => XS.dup Xh140.here hx rfl (hb hby at_134) rfl rfl k) ?_
    show OGo p e below s _ _ _ (T137.setTop (mkF m 135 #[.val (.int vc), .val (.int vsel), .val (.int voff), .val (.int vc), .unset, .unset] [(.ref b62), (.ref b62)]))
    refine OGo.on (fun t k => XS.bipush Xh140.here hx rfl (hb hby at_135) k) ?_
    show OGo p e below s _ _ _ (T137.setTop (mkF m 137 #[.val (.int vc), .val (.int vsel), .val (.int voff), .val (.int vc), .unset, .unset] [(.int (19 : Int32)), (.ref b62), (.ref b62)]))
    refine OGo.on (fun t k => XS.sipush Xh140.here hx rfl (hb hby at_137) k) ?_
    show OGo p e below s _ _ _ (T137.setTop (mkF m 140 #[.val (.int vc), .val (.int vsel), .val (.int voff), .val (.int vc), .unset, .unset] [(.int (11264 : Int32)), (.int (19 : Int32)), (.ref b62), (.ref b62)]))
    obtain ⟨T141, h141, X141, e141, W141, A141, st141⟩ := OAL.stI Xh140 hx hZ e137 V137 (j := (19 : Int32)) (x := (11264 : Int32)) (by decide) (by decide : 19 < 32) (Ls := #[.val (.int vc), .val (.int vsel), .val (.int voff), .val (.int vc), .unset, .unset]) (rest := [(.ref b62)]) (hb hby at_140)
    have Z142 : n0 ≤ h141.size := Nat.le_trans Z138 (Nat.le_of_eq W141.size.symm)
    have N143 := Fr.snoc X141 Nh140 ge63
    obtain ⟨Lh144, Xh144, Nh144⟩ := own_hide X141 N143
    have V141 : OAL Z h141 b62 .int [(65 : Int32), (90 : Int32), (97 : Int32), (122 : Int32), (95 : Int32), (192 : Int32), (214 : Int32), (216 : Int32), (246 : Int32), (248 : Int32), (767 : Int32), (880 : Int32), (893 : Int32), (895 : Int32), (8191 : Int32), (8204 : Int32), (8205 : Int32), (8304 : Int32), (8591 : Int32), (11264 : Int32), (0 : Int32), (0 : Int32), (0 : Int32), (0 : Int32), (0 : Int32), (0 : Int32), (0 : Int32), (0 : Int32), (0 : Int32), (0 : Int32), (0 : Int32), (0 : Int32)] := A141
    refine OGo.on st141 ?_
    show OGo p e below s _ _ _ (T141.setTop (mkF m 141 #[.val (.int vc), .val (.int vsel), .val (.int voff), .val (.int vc), .unset, .unset] [(.ref b62)]))
    refine OGo.on (fun t k => XS.dup Xh144.here hx rfl (hb hby at_141) rfl rfl k) ?_
    show OGo p e below s _ _ _ (T141.setTop (mkF m 142 #[.val (.int vc), .val (.int vsel), .val (.int voff), .val (.int vc), .unset, .unset] [(.ref b62), (.ref b62)]))
    refine OGo.on (fun t k => XS.bipush Xh144.here hx rfl (hb hby at_142) k) ?_
    show OGo p e below s _ _ _ (T141.setTop (mkF m 144 #[.val (.int vc), .val (.int vsel), .val (.int voff), .val (.int vc), .unset, .unset] [(.int (20 : Int32)), (.ref b62), (.ref b62)]))
    refine OGo.on (fun t k => XS.sipush Xh144.here hx rfl (hb hby at_144) k) ?_
    show OGo p e below s _ _ _ (T141.setTop (mkF m 147 #[.val (.int vc), .val (.int vsel), .val (.int voff), .val (.int vc), .unset, .unset] [(.int (12271 : Int32)), (.int (20 : Int32)), (.ref b62), (.ref b62)]))
    obtain ⟨T145, h145, X145, e145, W145, A145, st145⟩ := OAL.stI Xh144 hx hZ e141 V141 (j := (20 : Int32)) (x := (12271 : Int32)) (by decide) (by decide : 20 < 32) (Ls := #[.val (.int vc), .val (.int vsel), .val (.int voff), .val (.int vc), .unset, .unset]) (rest := [(.ref b62)]) (hb hby at_147)
    have Z146 : n0 ≤ h145.size := Nat.le_trans Z142 (Nat.le_of_eq W145.size.symm)
    have N147 := Fr.snoc X145 Nh144 ge63
    obtain ⟨Lh148, Xh148, Nh148⟩ := own_hide X145 N147
    have V145 : OAL Z h145 b62 .int [(65 : Int32), (90 : Int32), (97 : Int32), (122 : Int32), (95 : Int32), (192 : Int32), (214 : Int32), (216 : Int32), (246 : Int32), (248 : Int32), (767 : Int32), (880 : Int32), (893 : Int32), (895 : Int32), (8191 : Int32), (8204 : Int32), (8205 : Int32), (8304 : Int32), (8591 : Int32), (11264 : Int32), (12271 : Int32), (0 : Int32), (0 : Int32), (0 : Int32), (0 : Int32), (0 : Int32), (0 : Int32), (0 : Int32), (0 : Int32), (0 : Int32), (0 : Int32), (0 : Int32)] := A145
    refine OGo.on st145 ?_
    show OGo p e below s _ _ _ (T145.setTop (mkF m 148 #[.val (.int vc), .val (.int vsel), .val (.int voff), .val (.int vc), .unset, .unset] [(.ref b62)]))
    refine OGo.on (fun t k => XS.dup Xh148.here hx rfl (hb hby at_148) rfl rfl k) ?_
    show OGo p e below s _ _ _ (T145.setTop (mkF m 149 #[.val (.int vc), .val (.int vsel), .val (.int voff), .val (.int vc), .unset, .unset] [(.ref b62), (.ref b62)]))
    refine OGo.on (fun t k => XS.bipush Xh148.here hx rfl (hb hby at_149) k) ?_
    show OGo p e below s _ _ _ (T145.setTop (mkF m 151 #[.val (.int vc), .val (.int vsel), .val (.int voff), .val (.int vc), .unset, .unset] [(.int (21 : Int32)), (.ref b62), (.ref b62)]))
    refine OGo.on (fun t k => XS.sipush Xh148.here hx rfl (hb hby at_151) k) ?_
    show OGo p e below s _ _ _ (T145.setTop (mkF m 154 #[.val (.int vc), .val (.int vsel), .val (.int voff), .val (.int vc), .unset, .unset] [(.int (12289 : Int32)), (.int (21 : Int32)), (.ref b62), (.ref b62)]))
    obtain ⟨T149, h149, X149, e149, W149, A149, st149⟩ := OAL.stI Xh148 hx hZ e145 V145 (j := (21 : Int32)) (x := (12289 : Int32)) (by decide) (by decide : 21 < 32) (Ls := #[.val (.int vc), .val (.int vsel), .val (.int voff), .val (.int vc), .unset, .unset]) (rest := [(.ref b62)]) (hb hby at_154)
    have Z150 : n0 ≤ h149.size := Nat.le_trans Z146 (Nat.le_of_eq W149.size.symm)
    have N151 := Fr.snoc X149 Nh148 ge63
    obtain ⟨Lh152, Xh152, Nh152⟩ := own_hide X149 N151
    have V149 : OAL Z h149 b62 .int [(65 : Int32), (90 : Int32), (97 : Int32), (122 : Int32), (95 : Int32), (192 : Int32), (214 : Int32), (216 : Int32), (246 : Int32), (248 : Int32), (767 : Int32), (880 : Int32), (893 : Int32), (895 : Int32), (8191 : Int32), (8204 : Int32), (8205 : Int32), (8304 : Int32), (8591 : Int32), (11264 : Int32), (12271 : Int32), (12289 : Int32), (0 : Int32), (0 : Int32), (0 : Int32), (0 : Int32), (0 : Int32), (0 : Int32), (0 : Int32), (0 : Int32), (0 : Int32), (0 : Int32)] := A149
    refine OGo.on st149 ?_
    show OGo p e below s _ _ _ (T149.setTop (mkF m 155 #[.val (.int vc), .val (.int vsel), .val (.int voff), .val (.int vc), .unset, .unset] [(.ref b62)]))
    refine OGo.on (fun t k => XS.dup Xh152.here hx rfl (hb hby at_155) rfl rfl k) ?_
    show OGo p e below s _ _ _ (T149.setTop (mkF m 156 #[.val (.int vc), .val (.int vsel), .val (.int voff), .val (.int vc), .unset, .unset] [(.ref b62), (.ref b62)]))
    refine OGo.on (fun t k => XS.bipush Xh152.here hx rfl (hb hby at_156) k) ?_
    show OGo p e below s _ _ _ (T149.setTop (mkF m 158 #[.val (.int vc), .val (.int vsel), .val (.int voff), .val (.int vc), .unset, .unset] [(.int (22 : Int32)), (.ref b62), (.ref b62)]))
    refine OGo.on (fun t k => Xh152.ldcI hx hown (mvT hZ (hw _ (List.mem_of_getElem? (i := 1) rfl))) (g := (mkF m 158 #[.val (.int vc), .val (.int vsel), .val (.int voff), .val (.int vc), .unset, .unset] [(.int (22 : Int32)), (.ref b62), (.ref b62)])) rfl (hb hby at_158) k) ?_
    show OGo p e below s _ _ _ (T149.setTop (mkF m 160 #[.val (.int vc), .val (.int vsel), .val (.int voff), .val (.int vc), .unset, .unset] [(.int (55295 : Int32)), (.int (22 : Int32)), (.ref b62), (.ref b62)]))
    obtain ⟨T153, h153, X153, e153, W153, A153, st153⟩ := OAL.stI Xh152 hx hZ e149 V149 (j := (22 : Int32)) (x := (55295 : Int32)) (by decide) (by decide : 22 < 32) (Ls := #[.val (.int vc), .val (.int vsel), .val (.int voff), .val (.int vc), .unset, .unset]) (rest := [(.ref b62)]) (hb hby at_160)
    have Z154 : n0 ≤ h153.size := Nat.le_trans Z150 (Nat.le_of_eq W153.size.symm)
    have N155 := Fr.snoc X153 Nh152 ge63
    obtain ⟨Lh156, Xh156, Nh156⟩ := own_hide X153 N155
    have V153 : OAL Z h153 b62 .int [(65 : Int32), (90 : Int32), (97 : Int32), (122 : Int32), (95 : Int32), (192 : Int32), (214 : Int32), (216 : Int32), (246 : Int32), (248 : Int32), (767 : Int32), (880 : Int32), (893 : Int32), (895 : Int32), (8191 : Int32), (8204 : Int32), (8205 : Int32), (8304 : Int32), (8591 : Int32), (11264 : Int32), (12271 : Int32), (12289 : Int32), (55295 : Int32), (0 : Int32), (0 : Int32), (0 : Int32), (0 : Int32), (0 : Int32), (0 : Int32), (0 : Int32), (0 : Int32), (0 : Int32)] := A153
    refine OGo.on st153 ?_
    show OGo p e below s _ _ _ (T153.setTop (mkF m 161 #[.val (.int vc), .val (.int vsel), .val (.int voff), .val (.int vc), .unset, .unset] [(.ref b62)]))
    refine OGo.on (fun t k => XS.dup Xh156.here hx rfl (hb hby at_161) rfl rfl k) ?_
    show OGo p e below s _ _ _ (T153.setTop (mkF m 162 #[.val (.int vc), .val (.int vsel), .val (.int voff), .val (.int vc), .unset, .unset] [(.ref b62), (.ref b62)]))
    refine OGo.on (fun t k => XS.bipush Xh156.here hx rfl (hb hby at_162) k) ?_
    show OGo p e below s _ _ _ (T153.setTop (mkF m 164 #[.val (.int vc), .val (.int vsel), .val (.int voff), .val (.int vc), .unset, .unset] [(.int (23 : Int32)), (.ref b62), (.ref b62)]))
    refine OGo.on (fun t k => Xh156.ldcI hx hown (mvT hZ (hw _ (List.mem_of_getElem? (i := 2) rfl))) (g := (mkF m 164 #[.val (.int vc), .val (.int vsel), .val (.int voff), .val (.int vc), .unset, .unset] [(.int (23 : Int32)), (.ref b62), (.ref b62)])) rfl (hb hby at_164) k) ?_
    show OGo p e below s _ _ _ (T153.setTop (mkF m 166 #[.val (.int vc), .val (.int vsel), .val (.int voff), .val (.int vc), .unset, .unset] [(.int (63744 : Int32)), (.int (23 : Int32)), (.ref b62), (.ref b62)]))
    obtain ⟨T157, h157, X157, e157, W157, A157, st157⟩ := OAL.stI Xh156 hx hZ e153 V153 (j := (23 : Int32)) (x := (63744 : Int32)) (by decide) (by decide : 23 < 32) (Ls := #[.val (.int vc), .val (.int vsel), .val (.int voff), .val (.int vc), .unset, .unset]) (rest := [(.ref b62)]) (hb hby at_166)
    have Z158 : n0 ≤ h157.size := Nat.le_trans Z154 (Nat.le_of_eq W157.size.symm)
    have N159 := Fr.snoc X157 Nh156 ge63
    obtain ⟨Lh160, Xh160, Nh160⟩ := own_hide X157 N159
    have V157 : OAL Z h157 b62 .int [(65 : Int32), (90 : Int32), (97 : Int32), (122 : Int32), (95 : Int32), (192 : Int32), (214 : Int32), (216 : Int32), (246 : Int32), (248 : Int32), (767 : Int32), (880 : Int32), (893 : Int32), (895 : Int32), (8191 : Int32), (8204 : Int32), (8205 : Int32), (8304 : Int32), (8591 : Int32), (11264 : Int32), (12271 : Int32), (12289 : Int32), (55295 : Int32), (63744 : Int32), (0 : Int32), (0 : Int32), (0 : Int32), (0 : Int32), (0 : Int32), (0 : Int32), (0 : Int32), (0 : Int32)] := A157
    refine OGo.on st157 ?_
    show OGo p e below s _ _ _ (T157.setTop (mkF m 167 #[.val (.int vc), .val (.int vsel), .val (.int voff), .val (.int vc), .unset, .unset] [(.ref b62)]))
    refine OGo.on (fun t k => XS.dup Xh160.here hx rfl (hb hby at_167) rfl rfl k) ?_
    show OGo p e below s _ _ _ (T157.setTop (mkF m 168 #[.val (.int vc), .val (.int vsel), .val (.int voff), .val (.int vc), .unset, .unset] [(.ref b62), (.ref b62)]))
    refine OGo.on (fun t k => XS.bipush Xh160.here hx rfl (hb hby at_168) k) ?_
    show OGo p e below s _ _ _ (T157.setTop (mkF m 170 #[.val (.int vc), .val (.int vsel), .val (.int voff), .val (.int vc), .unset, .unset] [(.int (24 : Int32)), (.ref b62), (.ref b62)]))
    refine OGo.on (fun t k => Xh160.ldcI hx hown (mvT hZ (hw _ (List.mem_of_getElem? (i := 3) rfl))) (g := (mkF m 170 #[.val (.int vc), .val (.int vsel), .val (.int voff), .val (.int vc), .unset, .unset] [(.int (24 : Int32)), (.ref b62), (.ref b62)])) rfl (hb hby at_170) k) ?_
    show OGo p e below s _ _ _ (T157.setTop (mkF m 172 #[.val (.int vc), .val (.int vsel), .val (.int voff), .val (.int vc), .unset, .unset] [(.int (64975 : Int32)), (.int (24 : Int32)), (.ref b62), (.ref b62)]))
    obtain ⟨T161, h161, X161, e161, W161, A161, st161⟩ := OAL.stI Xh160 hx hZ e157 V157 (j := (24 : Int32)) (x := (64975 : Int32)) (by decide) (by decide : 24 < 32) (Ls := #[.val (.int vc), .val (.int vsel), .val (.int voff), .val (.int vc), .unset, .unset]) (rest := [(.ref b62)]) (hb hby at_172)
    have Z162 : n0 ≤ h161.size := Nat.le_trans Z158 (Nat.le_of_eq W161.size.symm)
    have N163 := Fr.snoc X161 Nh160 ge63
    obtain ⟨Lh164, Xh164, Nh164⟩ := own_hide X161 N163
    have V161 : OAL Z h161 b62 .int [(65 : Int32), (90 : Int32), (97 : Int32), (122 : Int32), (95 : Int32), (192 : Int32), (214 : Int32), (216 : Int32), (246 : Int32), (248 : Int32), (767 : Int32), (880 : Int32), (893 : Int32), (895 : Int32), (8191 : Int32), (8204 : Int32), (8205 : Int32), (8304 : Int32), (8591 : Int32), (11264 : Int32), (12271 : Int32), (12289 : Int32), (55295 : Int32), (63744 : Int32), (64975 : Int32), (0 : Int32), (0 : Int32), (0 : Int32), (0 : Int32), (0 : Int32), (0 : Int32), (0 : Int32)] := A161
    refine OGo.on st161 ?_
    show OGo p e below s _ _ _ (T161.setTop (mkF m 173 #[.val (.int vc), .val (.int vsel), .val (.int voff), .val (.int vc), .unset, .unset] [(.ref b62)]))
    refine OGo.on (fun t k => XS.dup Xh164.here hx rfl (hb hby at_173) rfl rfl k) ?_
    show OGo p e below s _ _ _ (T161.setTop (mkF m 174 #[.val (.int vc), .val (.int vsel), .val (.int voff), .val (.int vc), .unset, .unset] [(.ref b62), (.ref b62)]))
    refine OGo.on (fun t k => XS.bipush Xh164.here hx rfl (hb hby at_174) k) ?_
    show OGo p e below s _ _ _ (T161.setTop (mkF m 176 #[.val (.int vc), .val (.int vsel), .val (.int voff), .val (.int vc), .unset, .unset] [(.int (25 : Int32)), (.ref b62), (.ref b62)]))
    refine OGo.on (fun t k => Xh164.ldcI hx hown (mvT hZ (hw _ (List.mem_of_getElem? (i := 4) rfl))) (g := (mkF m 176 #[.val (.int vc), .val (.int vsel), .val (.int voff), .val (.int vc), .unset, .unset] [(.int (25 : Int32)), (.ref b62), (.ref b62)])) rfl (hb hby at_176) k) ?_
    show OGo p e below s _ _ _ (T161.setTop (mkF m 178 #[.val (.int vc), .val (.int vsel), .val (.int voff), .val (.int vc), .unset, .unset] [(.int (65008 : Int32)), (.int (25 : Int32)), (.ref b62), (.ref b62)]))
    obtain ⟨T165, h165, X165, e165, W165, A165, st165⟩ := OAL.stI Xh164 hx hZ e161 V161 (j := (25 : Int32)) (x := (65008 : Int32)) (by decide) (by decide : 25 < 32) (Ls := #[.val (.int vc), .val (.int vsel), .val (.int voff), .val (.int vc), .unset, .unset]) (rest := [(.ref b62)]) (hb hby at_178)
    have Z166 : n0 ≤ h165.size := Nat.le_trans Z162 (Nat.le_of_eq W165.size.symm)
    have N167 := Fr.snoc X165 Nh164 ge63
    obtain ⟨Lh168, Xh168, Nh168⟩ := own_hide X165 N167
    have V165 : OAL Z h165 b62 .int [(65 : Int32), (90 : Int32), (97 : Int32), (122 : Int32), (95 : Int32), (192 : Int32), (214 : Int32), (216 : Int32), (246 : Int32), (248 : Int32), (767 : Int32), (880 : Int32), (893 : Int32), (895 : Int32), (8191 : Int32), (8204 : Int32), (8205 : Int32), (8304 : Int32), (8591 : Int32), (11264 : Int32), (12271 : Int32), (12289 : Int32), (55295 : Int32), (63744 : Int32), (64975 : Int32), (65008 : Int32), (0 : Int32), (0 : Int32), (0 : Int32), (0 : Int32), (0 : Int32), (0 : Int32)] := A165
    refine OGo.on st165 ?_
    show OGo p e below s _ _ _ (T165.setTop (mkF m 179 #[.val (.int vc), .val (.int vsel), .val (.int voff), .val (.int vc), .unset, .unset] [(.ref b62)]))
    refine OGo.on (fun t k => XS.dup Xh168.here hx rfl (hb hby at_179) rfl rfl k) ?_
    show OGo p e below s _ _ _ (T165.setTop (mkF m 180 #[.val (.int vc), .val (.int vsel), .val (.int voff), .val (.int vc), .unset, .unset] [(.ref b62), (.ref b62)]))
    refine OGo.on (fun t k => XS.bipush Xh168.here hx rfl (hb hby at_180) k) ?_
    show OGo p e below s _ _ _ (T165.setTop (mkF m 182 #[.val (.int vc), .val (.int vsel), .val (.int voff), .val (.int vc), .unset, .unset] [(.int (26 : Int32)), (.ref b62), (.ref b62)]))
    refine OGo.on (fun t k => Xh168.ldcI hx hown (mvT hZ (hw _ (List.mem_of_getElem? (i := 5) rfl))) (g := (mkF m 182 #[.val (.int vc), .val (.int vsel), .val (.int voff), .val (.int vc), .unset, .unset] [(.int (26 : Int32)), (.ref b62), (.ref b62)])) rfl (hb hby at_182) k) ?_
    show OGo p e below s _ _ _ (T165.setTop (mkF m 184 #[.val (.int vc), .val (.int vsel), .val (.int voff), .val (.int vc), .unset, .unset] [(.int (65533 : Int32)), (.int (26 : Int32)), (.ref b62), (.ref b62)]))
    obtain ⟨T169, h169, X169, e169, W169, A169, st169⟩ := OAL.stI Xh168 hx hZ e165 V165 (j := (26 : Int32)) (x := (65533 : Int32)) (by decide) (by decide : 26 < 32) (Ls := #[.val (.int vc), .val (.int vsel), .val (.int voff), .val (.int vc), .unset, .unset]) (rest := [(.ref b62)]) (hb hby at_184)
    have Z170 : n0 ≤ h169.size := Nat.le_trans Z166 (Nat.le_of_eq W169.size.symm)
    have N171 := Fr.snoc X169 Nh168 ge63
    obtain ⟨Lh172, Xh172, Nh172⟩ := own_hide X169 N171
    have V169 : OAL Z h169 b62 .int [(65 : Int32), (90 : Int32), (97 : Int32), (122 : Int32), (95 : Int32), (192 : Int32), (214 : Int32), (216 : Int32), (246 : Int32), (248 : Int32), (767 : Int32), (880 : Int32), (893 : Int32), (895 : Int32), (8191 : Int32), (8204 : Int32), (8205 : Int32), (8304 : Int32), (8591 : Int32), (11264 : Int32), (12271 : Int32), (12289 : Int32), (55295 : Int32), (63744 : Int32), (64975 : Int32), (65008 : Int32), (65533 : Int32), (0 : Int32), (0 : Int32), (0 : Int32), (0 : Int32), (0 : Int32)] := A169
    refine OGo.on st169 ?_
    show OGo p e below s _ _ _ (T169.setTop (mkF m 185 #[.val (.int vc), .val (.int vsel), .val (.int voff), .val (.int vc), .unset, .unset] [(.ref b62)]))
    refine OGo.on (fun t k => XS.dup Xh172.here hx rfl (hb hby at_185) rfl rfl k) ?_
    show OGo p e below s _ _ _ (T169.setTop (mkF m 186 #[.val (.int vc), .val (.int vsel), .val (.int voff), .val (.int vc), .unset, .unset] [(.ref b62), (.ref b62)]))
    refine OGo.on (fun t k => XS.bipush Xh172.here hx rfl (hb hby at_186) k) ?_
    show OGo p e below s _ _ _ (T169.setTop (mkF m 188 #[.val (.int vc), .val (.int vsel), .val (.int voff), .val (.int vc), .unset, .unset] [(.int (27 : Int32)), (.ref b62), (.ref b62)]))
    refine OGo.on (fun t k => Xh172.ldcI hx hown (mvT hZ (hw _ (List.mem_of_getElem? (i := 6) rfl))) (g := (mkF m 188 #[.val (.int vc), .val (.int vsel), .val (.int voff), .val (.int vc), .unset, .unset] [(.int (27 : Int32)), (.ref b62), (.ref b62)])) rfl (hb hby at_188) k) ?_
    show OGo p e below s _ _ _ (T169.setTop (mkF m 190 #[.val (.int vc), .val (.int vsel), .val (.int voff), .val (.int vc), .unset, .unset] [(.int (65536 : Int32)), (.int (27 : Int32)), (.ref b62), (.ref b62)]))
    obtain ⟨T173, h173, X173, e173, W173, A173, st173⟩ := OAL.stI Xh172 hx hZ e169 V169 (j := (27 : Int32)) (x := (65536 : Int32)) (by decide) (by decide : 27 < 32) (Ls := #[.val (.int vc), .val (.int vsel), .val (.int voff), .val (.int vc), .unset, .unset]) (rest := [(.ref b62)]) (hb hby at_190)
    have Z174 : n0 ≤ h173.size := Nat.le_trans Z170 (Nat.le_of_eq W173.size.symm)
    have N175 := Fr.snoc X173 Nh172 ge63
    obtain ⟨Lh176, Xh176, Nh176⟩ := own_hide X173 N175
    have V173 : OAL Z h173 b62 .int [(65 : Int32), (90 : Int32), (97 : Int32), (122 : Int32), (95 : Int32), (192 : Int32), (214 : Int32), (216 : Int32), (246 : Int32), (248 : Int32), (767 : Int32), (880 : Int32), (893 : Int32), (895 : Int32), (8191 : Int32), (8204 : Int32), (8205 : Int32), (8304 : Int32), (8591 : Int32), (11264 : Int32), (12271 : Int32), (12289 : Int32), (55295 : Int32), (63744 : Int32), (64975 : Int32), (65008 : Int32), (65533 : Int32), (65536 : Int32), (0 : Int32), (0 : Int32), (0 : Int32), (0 : Int32)] := A173
    refine OGo.on st173 ?_
    show OGo p e below s _ _ _ (T173.setTop (mkF m 191 #[.val (.int vc), .val (.int vsel), .val (.int voff), .val (.int vc), .unset, .unset] [(.ref b62)]))
    refine OGo.on (fun t k => XS.dup Xh176.here hx rfl (hb hby at_191) rfl rfl k) ?_
    show OGo p e below s _ _ _ (T173.setTop (mkF m 192 #[.val (.int vc), .val (.int vsel), .val (.int voff), .val (.int vc), .unset, .unset] [(.ref b62), (.ref b62)]))
    refine OGo.on (fun t k => XS.bipush Xh176.here hx rfl (hb hby at_192) k) ?_
    show OGo p e below s _ _ _ (T173.setTop (mkF m 194 #[.val (.int vc), .val (.int vsel), .val (.int voff), .val (.int vc), .unset, .unset] [(.int (28 : Int32)), (.ref b62), (.ref b62)]))
    refine OGo.on (fun t k => Xh176.ldcI hx hown (mvT hZ (hw _ (List.mem_of_getElem? (i := 7) rfl))) (g := (mkF m 194 #[.val (.int vc), .val (.int vsel), .val (.int voff), .val (.int vc), .unset, .unset] [(.int (28 : Int32)), (.ref b62), (.ref b62)])) rfl (hb hby at_194) k) ?_
    show OGo p e below s _ _ _ (T173.setTop (mkF m 196 #[.val (.int vc), .val (.int vsel), .val (.int voff), .val (.int vc), .unset, .unset] [(.int (983039 : Int32)), (.int (28 : Int32)), (.ref b62), (.ref b62)]))
    obtain ⟨T177, h177, X177, e177, W177, A177, st177⟩ := OAL.stI Xh176 hx hZ e173 V173 (j := (28 : Int32)) (x := (983039 : Int32)) (by decide) (by decide : 28 < 32) (Ls := #[.val (.int vc), .val (.int vsel), .val (.int voff), .val (.int vc), .unset, .unset]) (rest := [(.ref b62)]) (hb hby at_196)
    have Z178 : n0 ≤ h177.size := Nat.le_trans Z174 (Nat.le_of_eq W177.size.symm)
    have N179 := Fr.snoc X177 Nh176 ge63
    obtain ⟨Lh180, Xh180, Nh180⟩ := own_hide X177 N179
    have V177 : OAL Z h177 b62 .int [(65 : Int32), (90 : Int32), (97 : Int32), (122 : Int32), (95 : Int32), (192 : Int32), (214 : Int32), (216 : Int32), (246 : Int32), (248 : Int32), (767 : Int32), (880 : Int32), (893 : Int32), (895 : Int32), (8191 : Int32), (8204 : Int32), (8205 : Int32), (8304 : Int32), (8591 : Int32), (11264 : Int32), (12271 : Int32), (12289 : Int32), (55295 : Int32), (63744 : Int32), (64975 : Int32), (65008 : Int32), (65533 : Int32), (65536 : Int32), (983039 : Int32), (0 : Int32), (0 : Int32), (0 : Int32)] := A177
    refine OGo.on st177 ?_
    show OGo p e below s _ _ _ (T177.setTop (mkF m 197 #[.val (.int vc), .val (.int vsel), .val (.int voff), .val (.int vc), .unset, .unset] [(.ref b62)]))
    refine OGo.on (fun t k => XS.dup Xh180.here hx rfl (hb hby at_197) rfl rfl k) ?_
    show OGo p e below s _ _ _ (T177.setTop (mkF m 198 #[.val (.int vc), .val (.int vsel), .val (.int voff), .val (.int vc), .unset, .unset] [(.ref b62), (.ref b62)]))
    refine OGo.on (fun t k => XS.bipush Xh180.here hx rfl (hb hby at_198) k) ?_
    show OGo p e below s _ _ _ (T177.setTop (mkF m 200 #[.val (.int vc), .val (.int vsel), .val (.int voff), .val (.int vc), .unset, .unset] [(.int (29 : Int32)), (.ref b62), (.ref b62)]))
    refine OGo.on (fun t k => XS.iconst Xh180.here hx rfl (hb hby at_200) k) ?_
    show OGo p e below s _ _ _ (T177.setTop (mkF m 201 #[.val (.int vc), .val (.int vsel), .val (.int voff), .val (.int vc), .unset, .unset] [(.int (0 : Int32)), (.int (29 : Int32)), (.ref b62), (.ref b62)]))
    obtain ⟨T181, h181, X181, e181, W181, A181, st181⟩ := OAL.stI Xh180 hx hZ e177 V177 (j := (29 : Int32)) (x := (0 : Int32)) (by decide) (by decide : 29 < 32) (Ls := #[.val (.int vc), .val (.int vsel), .val (.int voff), .val (.int vc), .unset, .unset]) (rest := [(.ref b62)]) (hb hby at_201)
    have Z182 : n0 ≤ h181.size := Nat.le_trans Z178 (Nat.le_of_eq W181.size.symm)
    have N183 := Fr.snoc X181 Nh180 ge63
    obtain ⟨Lh184, Xh184, Nh184⟩ := own_hide X181 N183
    have V181 : OAL Z h181 b62 .int [(65 : Int32), (90 : Int32), (97 : Int32), (122 : Int32), (95 : Int32), (192 : Int32), (214 : Int32), (216 : Int32), (246 : Int32), (248 : Int32), (767 : Int32), (880 : Int32), (893 : Int32), (895 : Int32), (8191 : Int32), (8204 : Int32), (8205 : Int32), (8304 : Int32), (8591 : Int32), (11264 : Int32), (12271 : Int32), (12289 : Int32), (55295 : Int32), (63744 : Int32), (64975 : Int32), (65008 : Int32), (65533 : Int32), (65536 : Int32), (983039 : Int32), (0 : Int32), (0 : Int32), (0 : Int32)] := A181
    refine OGo.on st181 ?_
    show OGo p e below s _ _ _ (T181.setTop (mkF m 202 #[.val (.int vc), .val (.int vsel), .val (.int voff), .val (.int vc), .unset, .unset] [(.ref b62)]))
    refine OGo.on (fun t k => XS.dup Xh184.here hx rfl (hb hby at_202) rfl rfl k) ?_
    show OGo p e below s _ _ _ (T181.setTop (mkF m 203 #[.val (.int vc), .val (.int vsel), .val (.int voff), .val (.int vc), .unset, .unset] [(.ref b62), (.ref b62)]))
    refine OGo.on (fun t k => XS.bipush Xh184.here hx rfl (hb hby at_203) k) ?_
    show OGo p e below s _ _ _ (T181.setTop (mkF m 205 #[.val (.int vc), .val (.int vsel), .val (.int voff), .val (.int vc), .unset, .unset] [(.int (30 : Int32)), (.ref b62), (.ref b62)]))
    refine OGo.on (fun t k => Xh184.ldcI hx hown (mvT hZ (hw _ (List.mem_of_getElem? (i := 8) rfl))) (g := (mkF m 205 #[.val (.int vc), .val (.int vsel), .val (.int voff), .val (.int vc), .unset, .unset] [(.int (30 : Int32)), (.ref b62), (.ref b62)])) rfl (hb hby at_205) k) ?_
    show OGo p e below s _ _ _ (T181.setTop (mkF m 207 #[.val (.int vc), .val (.int vsel), .val (.int voff), .val (.int vc), .unset, .unset] [(.int (-2147483648 : Int32)), (.int (30 : Int32)), (.ref b62), (.ref b62)]))
    obtain ⟨T185, h185, X185, e185, W185, A185, st185⟩ := OAL.stI Xh184 hx hZ e181 V181 (j := (30 : Int32)) (x := (-2147483648 : Int32)) (by decide) (by decide : 30 < 32) (Ls := #[.val (.int vc), .val (.int vsel), .val (.int voff), .val (.int vc), .unset, .unset]) (rest := [(.ref b62)]) (hb hby at_207)
    have Z186 : n0 ≤ h185.size := Nat.le_trans Z182 (Nat.le_of_eq W185.size.symm)
    have N187 := Fr.snoc X185 Nh184 ge63
    obtain ⟨Lh188, Xh188, Nh188⟩ := own_hide X185 N187
    have V185 : OAL Z h185 b62 .int [(65 : Int32), (90 : Int32), (97 : Int32), (122 : Int32), (95 : Int32), (192 : Int32), (214 : Int32), (216 : Int32), (246 : Int32), (248 : Int32), (767 : Int32), (880 : Int32), (893 : Int32), (895 : Int32), (8191 : Int32), (8204 : Int32), (8205 : Int32), (8304 : Int32), (8591 : Int32), (11264 : Int32), (12271 : Int32), (12289 : Int32), (55295 : Int32), (63744 : Int32), (64975 : Int32), (65008 : Int32), (65533 : Int32), (65536 : Int32), (983039 : Int32), (0 : Int32), (-2147483648 : Int32), (0 : Int32)] := A185
    refine OGo.on st185 ?_
    show OGo p e below s _ _ _ (T185.setTop (mkF m 208 #[.val (.int vc), .val (.int vsel), .val (.int voff), .val (.int vc), .unset, .unset] [(.ref b62)]))
    refine OGo.on (fun t k => XS.dup Xh188.here hx rfl (hb hby at_208) rfl rfl k) ?_
    show OGo p e below s _ _ _ (T185.setTop (mkF m 209 #[.val (.int vc), .val (.int vsel), .val (.int voff), .val (.int vc), .unset, .unset] [(.ref b62), (.ref b62)]))
    refine OGo.on (fun t k => XS.bipush Xh188.here hx rfl (hb hby at_209) k) ?_
    show OGo p e below s _ _ _ (T185.setTop (mkF m 211 #[.val (.int vc), .val (.int vsel), .val (.int voff), .val (.int vc), .unset, .unset] [(.int (31 : Int32)), (.ref b62), (.ref b62)]))
    refine OGo.on (fun t k => Xh188.ldcI hx hown (mvT hZ (hw _ (List.mem_of_getElem? (i := 9) rfl))) (g := (mkF m 211 #[.val (.int vc), .val (.int vsel), .val (.int voff), .val (.int vc), .unset, .unset] [(.int (31 : Int32)), (.ref b62), (.ref b62)])) rfl (hb hby at_211) k) ?_
    show OGo p e below s _ _ _ (T185.setTop (mkF m 213 #[.val (.int vc), .val (.int vsel), .val (.int voff), .val (.int vc), .unset, .unset] [(.int (2147483647 : Int32)), (.int (31 : Int32)), (.ref b62), (.ref b62)]))
    obtain ⟨T189, h189, X189, e189, W189, A189, st189⟩ := OAL.stI Xh188 hx hZ e185 V185 (j := (31 : Int32)) (x := (2147483647 : Int32)) (by decide) (by decide : 31 < 32) (Ls := #[.val (.int vc), .val (.int vsel), .val (.int voff), .val (.int vc), .unset, .unset]) (rest := [(.ref b62)]) (hb hby at_213)
    have Z190 : n0 ≤ h189.size := Nat.le_trans Z186 (Nat.le_of_eq W189.size.symm)
    have N191 := Fr.snoc X189 Nh188 ge63
    obtain ⟨Lh192, Xh192, Nh192⟩ := own_hide X189 N191
    have V189 : OAL Z h189 b62 .int [(65 : Int32), (90 : Int32), (97 : Int32), (122 : Int32), (95 : Int32), (192 : Int32), (214 : Int32), (216 : Int32), (246 : Int32), (248 : Int32), (767 : Int32), (880 : Int32), (893 : Int32), (895 : Int32), (8191 : Int32), (8204 : Int32), (8205 : Int32), (8304 : Int32), (8591 : Int32), (11264 : Int32), (12271 : Int32), (12289 : Int32), (55295 : Int32), (63744 : Int32), (64975 : Int32), (65008 : Int32), (65533 : Int32), (65536 : Int32), (983039 : Int32), (0 : Int32), (-2147483648 : Int32), (2147483647 : Int32)] := A189
    refine OGo.on st189 ?_
    show OGo p e below s _ _ _ (T189.setTop (mkF m 214 #[.val (.int vc), .val (.int vsel), .val (.int voff), .val (.int vc), .unset, .unset] [(.ref b62)]))
    refine OGo.on (fun t k => XS.astore Xh192.here hx rfl (hb hby at_214) rfl rfl (l' := #[.val (.int vc), .val (.int vsel), .val (.int voff), .val (.int vc), .val (.ref b62), .unset]) rfl k) ?_
    show OGo p e below s _ _ _ (T189.setTop (mkF m 216 #[.val (.int vc), .val (.int vsel), .val (.int voff), .val (.int vc), .val (.ref b62), .unset] []))
    refine OGo.on (fun t k => XS.iloadN Xh192.here hx rfl (hb hby at_216) rfl k) ?_
    show OGo p e below s _ _ _ (T189.setTop (mkF m 217 #[.val (.int vc), .val (.int vsel), .val (.int voff), .val (.int vc), .val (.ref b62), .unset] [(.int vsel)]))
    refine OGo.on (fun t k => XS.iconst Xh192.here hx rfl (hb hby at_217) k) ?_
    show OGo p e below s _ _ _ (T189.setTop (mkF m 218 #[.val (.int vc), .val (.int vsel), .val (.int voff), .val (.int vc), .val (.ref b62), .unset] [(.int (1 : Int32)), (.int vsel)]))
    refine OGo.on (fun t k => XS.iushr Xh192.here hx rfl (hb hby at_218) rfl k) ?_
    show OGo p e below s _ _ _ (T189.setTop (mkF m 219 #[.val (.int vc), .val (.int vsel), .val (.int voff), .val (.int vc), .val (.ref b62), .unset] [(.int ((vsel.toUInt32 >>> ((1 : Int32) &&& 31).toUInt32).toInt32))]))
    refine OGo.on (fun t k => Xh192.ldcI hx hown (mvT hZ (hw _ (List.mem_of_getElem? (i := 9) rfl))) (g := (mkF m 219 #[.val (.int vc), .val (.int vsel), .val (.int voff), .val (.int vc), .val (.ref b62), .unset] [(.int ((vsel.toUInt32 >>> ((1 : Int32) &&& 31).toUInt32).toInt32))])) rfl (hb hby at_219) k) ?_
    show OGo p e below s _ _ _ (T189.setTop (mkF m 221 #[.val (.int vc), .val (.int vsel), .val (.int voff), .val (.int vc), .val (.ref b62), .unset] [(.int (2147483647 : Int32)), (.int ((vsel.toUInt32 >>> ((1 : Int32) &&& 31).toUInt32).toInt32))]))
    refine OGo.on (fun t k => XS.iand Xh192.here hx rfl (hb hby at_221) rfl k) ?_
    show OGo p e below s _ _ _ (T189.setTop (mkF m 222 #[.val (.int vc), .val (.int vsel), .val (.int voff), .val (.int vc), .val (.ref b62), .unset] [(.int (((vsel.toUInt32 >>> ((1 : Int32) &&& 31).toUInt32).toInt32) &&& (2147483647 : Int32)))]))
    refine OGo.on (fun t k => XS.aload Xh192.here hx rfl (hb hby at_222) rfl rfl k) ?_
    show OGo p e below s _ _ _ (T189.setTop (mkF m 224 #[.val (.int vc), .val (.int vsel), .val (.int voff), .val (.int vc), .val (.ref b62), .unset] [(.ref b62), (.int (((vsel.toUInt32 >>> ((1 : Int32) &&& 31).toUInt32).toInt32) &&& (2147483647 : Int32)))]))
    refine OGo.on (fun t k => OAL.len Xh192 hx hZ e189 V189 rfl (hb hby at_224) k) ?_
    show OGo p e below s _ _ _ (T189.setTop (mkF m 225 #[.val (.int vc), .val (.int vsel), .val (.int voff), .val (.int vc), .val (.ref b62), .unset] [(.int (32 : Int32)), (.int (((vsel.toUInt32 >>> ((1 : Int32) &&& 31).toUInt32).toInt32) &&& (2147483647 : Int32)))]))
    refine OGo.on (fun t k => iremM Xh192 hx rfl (hb hby at_225) rfl (by decide) k) ?_
    show OGo p e below s _ _ _ (T189.setTop (mkF m 226 #[.val (.int vc), .val (.int vsel), .val (.int voff), .val (.int vc), .val (.ref b62), .unset] [(.int ((((vsel.toUInt32 >>> ((1 : Int32) &&& 31).toUInt32).toInt32) &&& (2147483647 : Int32)) % (32 : Int32)))]))
    refine OGo.on (fun t k => XS.istore Xh192.here hx rfl (hb hby at_226) rfl (l' := #[.val (.int vc), .val (.int vsel), .val (.int voff), .val (.int vc), .val (.ref b62), .val (.int ((((vsel.toUInt32 >>> ((1 : Int32) &&& 31).toUInt32).toInt32) &&& (2147483647 : Int32)) % (32 : Int32)))]) rfl k) ?_
    show OGo p e below s _ _ _ (T189.setTop (mkF m 228 #[.val (.int vc), .val (.int vsel), .val (.int voff), .val (.int vc), .val (.ref b62), .val (.int ((((vsel.toUInt32 >>> ((1 : Int32) &&& 31).toUInt32).toInt32) &&& (2147483647 : Int32)) % (32 : Int32)))] []))
    generalize hv_vi : ((((vsel.toUInt32 >>> ((1 : Int32) &&& 31).toUInt32).toInt32) &&& (2147483647 : Int32)) % (32 : Int32)) = vi
    show OGo p e below s _ _ _ (T189.setTop (mkF m 228 #[.val (.int vc), .val (.int vsel), .val (.int voff), .val (.int vc), .val (.ref b62), .val (.int vi)] []))
    refine OGo.on (fun t k => XS.aload Xh192.here hx rfl (hb hby at_228) rfl rfl k) ?_
    show OGo p e below s _ _ _ (T189.setTop (mkF m 230 #[.val (.int vc), .val (.int vsel), .val (.int voff), .val (.int vc), .val (.ref b62), .val (.int vi)] [(.ref b62)]))
    refine OGo.on (fun t k => XS.iload Xh192.here hx rfl (hb hby at_230) rfl k) ?_
    show OGo p e below s _ _ _ (T189.setTop (mkF m 232 #[.val (.int vc), .val (.int vsel), .val (.int voff), .val (.int vc), .val (.ref b62), .val (.int vi)] [(.int vi), (.ref b62)]))
    have hi : ∃ n : Fin 32, vi = Int32.ofNat n.val := by rw [← hv_vi]; exact own_mod _ _ (m := 32) (by decide) (by decide) (by decide)
    obtain ⟨w, hat⟩ := own_some (vs := [(65 : Int32), (90 : Int32), (97 : Int32), (122 : Int32), (95 : Int32), (192 : Int32), (214 : Int32), (216 : Int32), (246 : Int32), (248 : Int32), (767 : Int32), (880 : Int32), (893 : Int32), (895 : Int32), (8191 : Int32), (8204 : Int32), (8205 : Int32), (8304 : Int32), (8591 : Int32), (11264 : Int32), (12271 : Int32), (12289 : Int32), (55295 : Int32), (63744 : Int32), (64975 : Int32), (65008 : Int32), (65533 : Int32), (65536 : Int32), (983039 : Int32), (0 : Int32), (-2147483648 : Int32), (2147483647 : Int32)]) (j := vi) (own_x (P := fun o => ¬ o < 0) hi (by decide)) (own_x (P := fun o => o.toNatClampNeg < 32) hi (by decide))
    refine OGo.on (fun t k => OAL.ia Xh192 hx hZ e189 V189 hat (hb hby at_232) k) ?_
    show OGo p e below s _ _ _ (T189.setTop (mkF m 233 #[.val (.int vc), .val (.int vsel), .val (.int voff), .val (.int vc), .val (.ref b62), .val (.int vi)] [(.int w)]))
    refine OGo.on (fun t k => XS.iloadN Xh192.here hx rfl (hb hby at_233) rfl k) ?_
    show OGo p e below s _ _ _ (T189.setTop (mkF m 234 #[.val (.int vc), .val (.int vsel), .val (.int voff), .val (.int vc), .val (.ref b62), .val (.int vi)] [(.int voff), (.int w)]))
    refine OGo.on (fun t k => XS.iconst Xh192.here hx rfl (hb hby at_234) k) ?_
    show OGo p e below s _ _ _ (T189.setTop (mkF m 235 #[.val (.int vc), .val (.int vsel), .val (.int voff), .val (.int vc), .val (.ref b62), .val (.int vi)] [(.int (3 : Int32)), (.int voff), (.int w)]))
    refine OGo.on (fun t k => iremM Xh192 hx rfl (hb hby at_235) rfl (by decide) k) ?_
    show OGo p e below s _ _ _ (T189.setTop (mkF m 236 #[.val (.int vc), .val (.int vsel), .val (.int voff), .val (.int vc), .val (.ref b62), .val (.int vi)] [(.int (voff % (3 : Int32))), (.int w)]))
    refine OGo.on (fun t k => XS.iadd Xh192.here hx rfl (hb hby at_236) rfl k) ?_
    show OGo p e below s _ _ _ (T189.setTop (mkF m 237 #[.val (.int vc), .val (.int vsel), .val (.int voff), .val (.int vc), .val (.ref b62), .val (.int vi)] [(.int (w + (voff % (3 : Int32))))]))
    refine OGo.on (fun t k => XS.istoreN Xh192.here hx rfl (hb hby at_237) rfl (l' := #[.val (.int vc), .val (.int vsel), .val (.int voff), .val (.int (w + (voff % (3 : Int32)))), .val (.ref b62), .val (.int vi)]) rfl k) ?_
    show OGo p e below s _ _ _ (T189.setTop (mkF m 238 #[.val (.int vc), .val (.int vsel), .val (.int voff), .val (.int (w + (voff % (3 : Int32)))), .val (.ref b62), .val (.int vi)] []))
    generalize hv_vx : (w + (voff % (3 : Int32))) = vx
    show OGo p e below s _ _ _ (T189.setTop (mkF m 238 #[.val (.int vc), .val (.int vsel), .val (.int voff), .val (.int vx), .val (.ref b62), .val (.int vi)] []))
    refine OGo.on (fun t k => XS.iloadN Xh192.here hx rfl (hb hby at_238) rfl k) ?_
    show OGo p e below s _ _ _ (T189.setTop (mkF m 239 #[.val (.int vc), .val (.int vsel), .val (.int voff), .val (.int vx), .val (.ref b62), .val (.int vi)] [(.int vx)]))
    obtain ⟨_, _, ⟨T193, L193, k193, n193⟩, -, X193, ⟨Lc193, hQ193, l193, y193, z193⟩, st193⟩ := Jvm.LawKit.callS Xh192 hx (y := (⟨"org/surnia/datatypes/NameCharacters", "isNameStartChar", "(I)Z"⟩ : MethodName)) hown (mvT hZ (hw _ (List.mem_of_getElem? (i := 10) rfl))) (mvT hZ (hw _ (List.mem_of_getElem? (i := 11) rfl))) (mvT hZ (hw _ (List.mem_of_getElem? (i := 12) rfl))) (mvT hZ (hw _ (List.mem_of_getElem? (i := 13) rfl))) (by decide) (backOf (W := 0) (own_mnsc l Z a0 hw [] vx h189 n0 Z190) hZ (hw _ (List.mem_of_getElem? (i := 13) rfl)) (hw _ (List.mem_of_getElem? (i := 12) rfl)) (by decide) (by decide)) (g := (mkF m 239 #[.val (.int vc), .val (.int vsel), .val (.int voff), .val (.int vx), .val (.ref b62), .val (.int vi)] [(.int vx)])) rfl (by rw [hml]; rfl) (argsL := [(.int vx)]) (rest := []) (lenOf own_pd0 rfl) rfl (by show 2 * 0 + _ ≤ _; exact Nat.le_of_eq rfl) (hb hby at_239) (fun _ _ => ⟨rfl, e189, (by decide : 1 + 0 ≤ _), (by decide : 32 + 0 ≤ _)⟩)
    dsimp only [Pt.U, Pt.locs, Pt.cells, Pt.slots] at X193 l193 y193 z193 st193 hQ193
    subst l193 y193 z193
    obtain ⟨rfl, N193q, e193⟩ := hQ193
    have N193 := Fr.app Nh192 N193q
    obtain ⟨Lh194, Xh194, Nh194⟩ := own_hide X193 N193
    refine OGo.on st193 ?_
    show OGo p e below s _ _ _ (T193.setTop (mkF m 242 #[.val (.int vc), .val (.int vsel), .val (.int voff), .val (.int vx), .val (.ref b62), .val (.int vi)] [(.int (own_nsc vx))]))
    refine OGo.on (fun t k => XS.iloadN Xh194.here hx rfl (hb hby at_242) rfl k) ?_
    show OGo p e below s _ _ _ (T193.setTop (mkF m 243 #[.val (.int vc), .val (.int vsel), .val (.int voff), .val (.int vx), .val (.ref b62), .val (.int vi)] [(.int vx), (.int (own_nsc vx))]))
    obtain ⟨_, _, ⟨T195, L195, k195, n195⟩, -, X195, ⟨Lc195, hQ195, l195, y195, z195⟩, st195⟩ := Jvm.LawKit.callS Xh194 hx (y := (⟨"org/surnia/datatypes/NameCharactersIsNameStartCharPinLaw", "outside", "(I)Z"⟩ : MethodName)) hown (mvT hZ (hw _ (List.mem_of_getElem? (i := 17) rfl))) (mvT hZ (hw _ (List.mem_of_getElem? (i := 18) rfl))) (mvT hZ (hw _ (List.mem_of_getElem? (i := 19) rfl))) (mvT hZ (hw _ (List.mem_of_getElem? (i := 20) rfl))) (by decide) (backOf (W := 1) (own_mout l Z a0 hw [] vx h189 n0 Z190) hZ (hw _ (List.mem_of_getElem? (i := 20) rfl)) (hw _ (List.mem_of_getElem? (i := 19) rfl)) (by decide) (by decide)) (g := (mkF m 243 #[.val (.int vc), .val (.int vsel), .val (.int voff), .val (.int vx), .val (.ref b62), .val (.int vi)] [(.int vx), (.int (own_nsc vx))])) rfl (by rw [hml]; rfl) (argsL := [(.int vx)]) (rest := [(.int (own_nsc vx))]) (lenOf own_pd0 rfl) rfl (by show 2 * 0 + _ ≤ _; exact Nat.le_of_eq rfl) (hb hby at_243) (fun _ _ => ⟨rfl, e193, (by decide : 1 + 0 ≤ _), (by decide : 32 + 0 ≤ _)⟩)
    dsimp only [Pt.U, Pt.locs, Pt.cells, Pt.slots] at X195 l195 y195 z195 st195 hQ195
    subst l195 y195 z195
    obtain ⟨rfl, N195q, e195⟩ := hQ195
    have N195 := Fr.app Nh194 N195q
    obtain ⟨Lh196, Xh196, Nh196⟩ := own_hide X195 N195
    refine OGo.on st195 ?_
    show OGo p e below s _ _ _ (T195.setTop (mkF m 246 #[.val (.int vc), .val (.int vsel), .val (.int voff), .val (.int vx), .val (.ref b62), .val (.int vi)] [(.int (own_out vx)), (.int (own_nsc vx))]))
    by_cases hc197 : (own_out vx) = (0 : Int32)
    · refine OGo.on (fun t k => XS.ifNo Xh196.here hx rfl (hb hby at_246) rfl ((if0 _ _).trans (teq hc197).2) k) ?_
      show OGo p e below s _ _ _ (T195.setTop (mkF m 249 #[.val (.int vc), .val (.int vsel), .val (.int voff), .val (.int vx), .val (.ref b62), .val (.int vi)] [(.int (own_nsc vx))]))
      refine OGo.on (fun t k => XS.iconst Xh196.here hx rfl (hb hby at_249) k) ?_
      show OGo p e below s _ _ _ (T195.setTop (mkF m 250 #[.val (.int vc), .val (.int vsel), .val (.int voff), .val (.int vx), .val (.ref b62), .val (.int vi)] [(.int (1 : Int32)), (.int (own_nsc vx))]))
      refine OGo.on (fun t k => XS.goto Xh196.here hx rfl (pc0 := 250) (pc' := 254) rfl (hb hby at_250) (by decide) (by decide) k) ?_
      show OGo p e below s _ _ _ (T195.setTop (mkF m 254 #[.val (.int vc), .val (.int vsel), .val (.int voff), .val (.int vx), .val (.ref b62), .val (.int vi)] [(.int (1 : Int32)), (.int (own_nsc vx))]))
      refine OGo.on (fun t k => XS.icmpNo Xh196.here hx rfl (hb hby at_254) rfl (teq (own_k0 hc197)).2 k) ?_
      show OGo p e below s _ _ _ (T195.setTop (mkF m 257 #[.val (.int vc), .val (.int vsel), .val (.int voff), .val (.int vx), .val (.ref b62), .val (.int vi)] []))
      refine OGo.on (fun t k => XS.iconst Xh196.here hx rfl (hb hby at_257) k) ?_
      show OGo p e below s _ _ _ (T195.setTop (mkF m 258 #[.val (.int vc), .val (.int vsel), .val (.int voff), .val (.int vx), .val (.ref b62), .val (.int vi)] [(.int (1 : Int32))]))
      refine OGo.on (fun t k => XS.goto Xh196.here hx rfl (pc0 := 258) (pc' := 262) rfl (hb hby at_258) (by decide) (by decide) k) ?_
      show OGo p e below s _ _ _ (T195.setTop (mkF m 262 #[.val (.int vc), .val (.int vsel), .val (.int voff), .val (.int vx), .val (.ref b62), .val (.int vi)] [(.int (1 : Int32))]))
      exact OGo.retN Xh196 hx (t := .boolean) hret hlk (by simp) (hb hby at_262) ⟨rfl, Nh196⟩ (by decide) (by decide)
    · refine OGo.on (fun t k => XS.ifYes Xh196.here hx rfl (pc0 := 246) (pc' := 253) rfl (hb hby at_246) rfl ((if0 _ _).trans (feq hc197).2) (by decide) (by decide) k) ?_
      show OGo p e below s _ _ _ (T195.setTop (mkF m 253 #[.val (.int vc), .val (.int vsel), .val (.int voff), .val (.int vx), .val (.ref b62), .val (.int vi)] [(.int (own_nsc vx))]))
      refine OGo.on (fun t k => XS.iconst Xh196.here hx rfl (hb hby at_253) k) ?_
      show OGo p e below s _ _ _ (T195.setTop (mkF m 254 #[.val (.int vc), .val (.int vsel), .val (.int voff), .val (.int vx), .val (.ref b62), .val (.int vi)] [(.int (0 : Int32)), (.int (own_nsc vx))]))
      refine OGo.on (fun t k => XS.icmpNo Xh196.here hx rfl (hb hby at_254) rfl (teq (own_k1 hc197)).2 k) ?_
      show OGo p e below s _ _ _ (T195.setTop (mkF m 257 #[.val (.int vc), .val (.int vsel), .val (.int voff), .val (.int vx), .val (.ref b62), .val (.int vi)] []))
      refine OGo.on (fun t k => XS.iconst Xh196.here hx rfl (hb hby at_257) k) ?_
      show OGo p e below s _ _ _ (T195.setTop (mkF m 258 #[.val (.int vc), .val (.int vsel), .val (.int voff), .val (.int vx), .val (.ref b62), .val (.int vi)] [(.int (1 : Int32))]))
      refine OGo.on (fun t k => XS.goto Xh196.here hx rfl (pc0 := 258) (pc' := 262) rfl (hb hby at_258) (by decide) (by decide) k) ?_
      show OGo p e below s _ _ _ (T195.setTop (mkF m 262 #[.val (.int vc), .val (.int vsel), .val (.int voff), .val (.int vx), .val (.ref b62), .val (.int vi)] [(.int (1 : Int32))]))
      exact OGo.retN Xh196 hx (t := .boolean) hret hlk (by simp) (hb hby at_262) ⟨rfl, Nh196⟩ (by decide) (by decide)
set_option maxRecDepth 65536 in
set_option maxHeartbeats 40000000 in
theorem comes_1 {Post : Tables → Env → Array Value → State → Outcome → State → Prop} (hpost : ∀ tb e args s v u, (limb_1_1.after args s (.returned v) u = true ∧ limb_1_2.after args s (.returned v) u = true ∧ True) → FrameEnd s (.returned v) u (Jvm.fieldLocs frame_1_writes args s ++ Jvm.arrayLocs frame_1_arrays args s ++ Jvm.staticLocs frame_1_statics s) 16 128 → Post tb e args s (.returned v) u) :
    ArmFor flags0 classFile x code maxLocals ret World_1 tables_1 room_1 Calls_1 rest_1 Pre_1 Post := by
  intro l hfl _ _ p e ha hc hk s m args below hf hA hF happ hP
  obtain ⟨hcalls, hrest, hpre⟩ := hP
  obtain ⟨-, -, -, hnamed, -, -, -, hat⟩ := (Spec.applies_iff hf).mp happ
  obtain ⟨hg, hn⟩ := and_e (Cond.before_iff.mp (show (Jvm.Cond.and given_1 narrow_1).before args s = true from hpre))
  obtain ⟨gg198, gg199⟩ := and_e hg
  obtain ⟨gg200, gg201⟩ := and_e gg199
  obtain ⟨gg202, gg203⟩ := and_e gg201
  obtain ⟨w0, w1, w2, rfl⟩ : ∃ w0 w1 w2 : Value, args = #[w0, w1, w2] := by
    have hs : args.size = 3 := by simpa [Cond.value, given_1] using gg198
    obtain ⟨L⟩ := args
    match L, hs with
    | [w0, w1, w2], _ => exact ⟨w0, w1, w2, rfl⟩
  have hw := fun d (hd : d ∈ tables_1) => atoms_spec (ws := Jvm.Cond.code x code maxLocals ret :: tables_1) hat d (List.mem_cons_of_mem _ hd)
  obtain ⟨i0, ei0⟩ := is_v gg200
  obtain rfl : w0 = (.int i0) := Option.some.inj ei0
  obtain ⟨i1, ei1⟩ := is_v gg202
  obtain rfl : w1 = (.int i1) := Option.some.inj ei1
  obtain ⟨i2, ei2⟩ := is_v gg203
  obtain rfl : w2 = (.int i2) := Option.some.inj ei2
  obtain ⟨n, o, h1, h2, h3, _, L, rfl, ⟨rfl, N⟩, hq⟩ := own_law l s _ hw tables_1 i0 i1 i2 s.heap s.heap.size (Nat.le_refl _)  p e ha hc hk s m _ below hf ((Spec.applies_iff_loose hf).mp happ).1 ⟨rfl, State.Warmed39.refl s, rfl⟩ trivial
  refine ⟨n, _, h1, h2, h3, hpost _ _ _ _ _ _ ⟨Cond.after_iff.mpr rfl, Cond.after_iff.mpr (eq_i res_at (Term.int_eval (1)) rfl), trivial⟩ ⟨hq.1, hq.2.1, (hq.2.2.sift fun y hy => Or.inr (N y hy)).mono (by decide) (by decide)⟩⟩
theorem main_1_1 : Claimed_1_1 := comes_1 fun _ _ _ _ _ _ h hF => ⟨h.1, hF⟩
theorem main_1_2 : Claimed_1_2 := comes_1 fun _ _ _ _ _ _ h hF => ⟨h.2.1, hF⟩
end Jvm.Pilot.@@N@@
namespace Jvm.Pilot.@@N@@
open Jvm Jvm.ClassFile Sem Op Lib Jvm.Free Jvm.Stand Jvm.Pilot.@@N@@.Jvm.D
/-! MADE BY PROGRAM (witnessworld.py) out of the Statement's table words and the real class files: 9 classes; the members and pool entries that the words name. The judged class is class 1, her method 1. -/
namespace start1
open Jvm.ClassFile
def u (s : String) : CpInfo := .utf8 (stringToUtf16 s)
/-- a pool by its gaps: so many unusable entries, then the entry; so many at the end -/
def gap : Nat → List CpInfo → List CpInfo
  | 0, r => r
  | n + 1, r => .unusable :: gap n r
def poolList (es : List (Nat × CpInfo)) (last : Nat) : List CpInfo := es.foldr (fun e r => gap e.1 (e.2 :: r)) (gap last [])
def pool (es : List (Nat × CpInfo)) (last : Nat) : Array CpInfo := ⟨poolList es last⟩
def fileOf (pool : Array CpInfo) (this : Nat) (attrs : Array Attribute := #[]) (ms : Array MethodInfo := #[]) (fl : Nat := 33) (sup : Nat := 0) (ifs : Array Nat := #[]) (fds : Array FieldInfo := #[]) : ClassFile where
  minorVersion := 0
  majorVersion := 65
  constantPool := pool
  accessFlags := fl
  thisClass := this
  superClass := sup
  interfaces := ifs
  fields := fds
  methods := ms
  attributes := attrs
def plain (name : String) (sup : Option ClassId) : Class where
  name := name
  kind := .ordinary
  loader := none
  accessFlags := 33
  super := sup
  interfaces := #[]
  cf := none
  fields := #[]
  methods := #[]
  instanceTypes := #[]
  staticTypes := #[]
  resolved := #[]
  callSites := []
  init := .initialized
  statics := none
  mirror := none

def pool0 : Array CpInfo := pool [(5, u "<init>"), (0, u "()V"), (1, .class_ 10), (1, u "java/lang/Object")] 113

def k0m0 : Method := { name := "<init>", desc := "()V", sig := { parameters := [], returnType := none }, accessFlags := 1, code := none }
/-- java/lang/Object -/
def k0 : Class := { plain "java/lang/Object" none with
  accessFlags := 33
  interfaces := #[]
  cf := some (fileOf pool0 8 #[] #[{ accessFlags := 1, nameIndex := 5, descriptorIndex := 6, attributes := #[] }] 33 0 #[] #[])
  fields := #[]
  methods := #[k0m0]
  instanceTypes := #[]
  staticTypes := #[]
  resolved := Array.replicate 124 none
  statics := none }

def pool1 : Array CpInfo := pool [(2, .class_ 4), (1, u "java/lang/Object"), (0, u "<init>"), (0, u "()V"), (0, .integer 55295), (0, .integer 63744), (0, .integer 64975), (0, .integer 65008), (0, .integer 65533), (0, .integer 65536), (0, .integer 983039), (2, .integer 2147483648), (0, .integer 2147483647), (0, .methodref 19 20), (0, .class_ 21), (0, .nameAndType 22 23), (0, u "org/surnia/datatypes/NameCharacters"), (0, u "isNameStartChar"), (0, u "(I)Z"), (0, .methodref 25 26), (0, .class_ 27), (0, .nameAndType 28 23), (0, u "org/surnia/datatypes/NameCharactersIsNameStartCharPinLaw"), (0, u "outside"), (0, .integer 55296), (0, .integer 63743), (0, .integer 64976), (0, .integer 65007), (0, .integer 65534), (0, .integer 65535), (2, u "law"), (0, u "(III)Z")] 3

def k1m0 : Method := { name := "<init>", desc := "()V", sig := { parameters := [], returnType := none }, accessFlags := 2, code := none }
def k1c1 : Code := { maxStack := 4, maxLocals := 6, code := code, exceptionTable := #[], attributes := #[] }
def k1m1 : Method := { name := "law", desc := "(III)Z", sig := { parameters := [.int, .int, .int], returnType := some .boolean }, accessFlags := 9, code := some k1c1 }
def k1c2 : Code := { maxStack := 2, maxLocals := 1, code := method_3_code, exceptionTable := #[], attributes := #[] }
def k1m2 : Method := { name := "outside", desc := "(I)Z", sig := { parameters := [.int], returnType := some .boolean }, accessFlags := 10, code := some k1c2 }
/-- org/surnia/datatypes/NameCharactersIsNameStartCharPinLaw -/
def k1 : Class := { plain "org/surnia/datatypes/NameCharactersIsNameStartCharPinLaw" (some 0) with
  accessFlags := 49
  interfaces := #[]
  cf := some (fileOf pool1 25 #[] #[{ accessFlags := 2, nameIndex := 5, descriptorIndex := 6, attributes := #[] }, { accessFlags := 9, nameIndex := 37, descriptorIndex := 38, attributes := #[] }, { accessFlags := 10, nameIndex := 28, descriptorIndex := 23, attributes := #[] }] 49 2 #[] #[])
  fields := #[]
  methods := #[k1m0, k1m1, k1m2]
  instanceTypes := #[]
  staticTypes := #[]
  resolved := Array.replicate 42 none
  statics := none }

def pool2 : Array CpInfo := pool [(2, .class_ 4), (1, u "java/lang/Object"), (0, u "<init>"), (0, u "()V"), (0, .integer 55295), (0, .integer 63744), (0, .integer 64975), (0, .integer 65008), (0, .integer 65533), (0, .integer 65536), (0, .integer 983039), (1, .class_ 17), (1, u "org/surnia/datatypes/NameCharacters"), (0, u "isNameStartChar"), (0, u "(I)Z")] 33

def k2m0 : Method := { name := "<init>", desc := "()V", sig := { parameters := [], returnType := none }, accessFlags := 2, code := none }
def k2c1 : Code := { maxStack := 2, maxLocals := 1, code := prog_7_method_2_code, exceptionTable := #[], attributes := #[] }
def k2m1 : Method := { name := "isNameStartChar", desc := "(I)Z", sig := { parameters := [.int], returnType := some .boolean }, accessFlags := 9, code := some k2c1 }
/-- org/surnia/datatypes/NameCharacters -/
def k2 : Class := { plain "org/surnia/datatypes/NameCharacters" (some 0) with
  accessFlags := 49
  interfaces := #[]
  cf := some (fileOf pool2 15 #[] #[{ accessFlags := 2, nameIndex := 5, descriptorIndex := 6, attributes := #[] }, { accessFlags := 9, nameIndex := 18, descriptorIndex := 19, attributes := #[] }] 49 2 #[] #[])
  fields := #[]
  methods := #[k2m0, k2m1]
  instanceTypes := #[]
  staticTypes := #[]
  resolved := Array.replicate 53 none
  statics := none }

def pool3 : Array CpInfo := pool [(1, u "java/lang/Cloneable"), (0, .class_ 1), (0, u "java/lang/Object"), (0, .class_ 3)] 3

/-- java/lang/Cloneable -/
def k3 : Class := { plain "java/lang/Cloneable" (some 0) with
  accessFlags := 1537
  interfaces := #[]
  cf := some (fileOf pool3 2 #[] #[] 1537 4 #[] #[])
  fields := #[]
  methods := #[]
  instanceTypes := #[]
  staticTypes := #[]
  resolved := Array.replicate 8 none
  statics := none }

def pool4 : Array CpInfo := pool [(1, u "java/io/Serializable"), (0, .class_ 1), (0, u "java/lang/Object"), (0, .class_ 3)] 3

/-- java/io/Serializable -/
def k4 : Class := { plain "java/io/Serializable" (some 0) with
  accessFlags := 1537
  interfaces := #[]
  cf := some (fileOf pool4 2 #[] #[] 1537 4 #[] #[])
  fields := #[]
  methods := #[]
  instanceTypes := #[]
  staticTypes := #[]
  resolved := Array.replicate 8 none
  statics := none }

/-- the primitive byte -/
def k5 : Class := { plain "byte" none with kind := .primitive 'B', accessFlags := 0x411 }
/-- [B -/
def k6 : Class := { plain "[B" (some 0) with kind := .array 5 .byte, interfaces := #[3, 4], accessFlags := 1041 }

/-- the primitive int -/
def k7 : Class := { plain "int" none with kind := .primitive 'I', accessFlags := 0x411 }
/-- [I -/
def k8 : Class := { plain "[I" (some 0) with kind := .array 7 .int, interfaces := #[3, 4], accessFlags := 1041 }

def heap : Heap := #[]
def classes : Array Class := #[k0, k1, k2, k3, k4, k5, k6, k7, k8]
def interned : List (Array UInt16 × Addr) := []
def slotsUsed : Nat := 0
def theMethod : MethodId := ⟨1, 1⟩
def args0 : Array Value := #[.int 5, .int 3, .int 4]
def aboutOver (below : List Frame) : State where
  vm := { classes := classes, interned := interned.toArray }
  heap := heap
  slotsUsed := slotsUsed
  threads := #[{ frames := .invoking theMethod args0 :: below }]
def below0 : List Frame := [.native { method := ⟨0, 0⟩, args := #[] }]
def about1 : State := aboutOver below0
def p0 : Program := .bare "" "" ""
def e0 : Env := launch0.env 0 0 0
theorem w_frames : about1.frames = Frame.invoking theMethod args0 :: below0 := rfl
set_option maxRecDepth 65536 in
theorem w_args : argsFit about1.vm theMethod args0 = true := by decide +kernel
set_option maxRecDepth 65536 in
theorem w_heap : heapFits about1 = true := by decide +kernel
set_option maxRecDepth 65536 in
theorem w_runnable : about1.curStatus? = some .runnable := by decide +kernel
set_option maxRecDepth 65536 in
theorem w_alone : about1.alone = true := by decide +kernel
set_option maxRecDepth 65536 in
theorem w_named : about1.methodNamed? x = some theMethod := by decide +kernel
set_option maxRecDepth 65536 in
theorem w_hears : about1.hears theMethod below0 = true := by decide +kernel
set_option maxRecDepth 65536 in
theorem w_ripe : about1.ripe theMethod args0 below0 = true := by decide +kernel
theorem w_running : about1.status = .running := rfl
set_option maxRecDepth 65536 in
theorem w_room : about1.hasRoom e0.platform room_1 = true :=
  launch0.hasRoom_least _ room_1 (by decide +kernel) (by decide +kernel) (by decide +kernel) (by decide +kernel) (by decide +kernel) (by decide +kernel)
theorem allAtoms_all (ts : List Jvm.Cond) (a : Array Jvm.Value) (st : Jvm.State) : (allAtoms ts).before a st = ts.all (fun c => c.before a st) := by
  induction ts with
  | nil => rfl
  | cons c t ih =>
    show (Jvm.Cond.and c (allAtoms t)).before a st = _
    rw [Jvm.Cond.before_and, ih, List.all_cons]
def words1 : List Jvm.Cond := Jvm.Cond.code x code maxLocals ret :: tables_1
/-- a 'code' word, met by the world's own term for the bytes: nothing is compared byte by byte -/
theorem code_word {y : MethodName} {bytes : ByteArray} {mx : Nat} {rt : Option FieldType} {a : Array Value} {s : State} {m : MethodId} {meth : Method} {c : Code} (h1 : s.methodNamed? y = some m) (h2 : s.vm.method? m = some meth) (h3 : meth.code = some c) (h4 : c.code = bytes)
    (h5 : (c.maxLocals == mx && c.exceptionTable.isEmpty && decide (c.maxStack ≤ mostOperands) && decide (meth.sig.returnType = rt) && !meth.locks && decide (parseMethodDescriptor y.desc = some meth.sig)) = true) : (Jvm.Cond.code y bytes mx rt).before a s = true := by
  simp only [Bool.and_eq_true, beq_iff_eq, Bool.not_eq_true', decide_eq_true_eq] at h5
  obtain ⟨⟨⟨⟨⟨g1, g2⟩, g3⟩, g4⟩, g5⟩, g6⟩ := h5
  simp [Cond.before, Cond.holds, Cond.value, h1, h2, h3, h4, g1, g2, g3, g4, g5, g6]
def isCode : Jvm.Cond → Bool
  | .code _ _ _ _ => true
  | _ => false
theorem all_split {L : List Jvm.Cond} {P : Jvm.Cond → Bool} (h1 : L.all (fun c => isCode c || P c) = true) (h2 : ∀ c ∈ L.filter isCode, P c = true) : L.all P = true := by
  refine List.all_eq_true.mpr fun c hc => ?_
  have h := List.all_eq_true.mp h1 c hc
  rcases Bool.eq_false_or_eq_true (isCode c) with hi | hi
  · exact h2 c (List.mem_filter.mpr ⟨hc, hi⟩)
  · simpa [hi] using h
set_option maxRecDepth 65536 in
theorem w_c0 : (Jvm.Cond.code x code maxLocals ret).before args0 about1 = true := code_word (m := ⟨1, 1⟩) (meth := k1m1) (c := k1c1) (by decide +kernel) rfl rfl rfl (by decide +kernel)
set_option maxRecDepth 65536 in
theorem w_c1 : (Jvm.Cond.code ({ cls := "org/surnia/datatypes/NameCharacters", name := "isNameStartChar", desc := "(I)Z" } : Jvm.MethodName) prog_7_method_2_code (1 : Nat) (Option.some Jvm.ClassFile.FieldType.boolean)).before args0 about1 = true := code_word (m := ⟨2, 1⟩) (meth := k2m1) (c := k2c1) (by decide +kernel) rfl rfl rfl (by decide +kernel)
set_option maxRecDepth 65536 in
theorem w_c2 : (Jvm.Cond.code ({ cls := "org/surnia/datatypes/NameCharactersIsNameStartCharPinLaw", name := "outside", desc := "(I)Z" } : Jvm.MethodName) method_3_code (1 : Nat) (Option.some Jvm.ClassFile.FieldType.boolean)).before args0 about1 = true := code_word (m := ⟨1, 2⟩) (meth := k1m2) (c := k1c2) (by decide +kernel) rfl rfl rfl (by decide +kernel)
def codes1 : List Jvm.Cond := [Jvm.Cond.code x code maxLocals ret, Jvm.Cond.code ({ cls := "org/surnia/datatypes/NameCharacters", name := "isNameStartChar", desc := "(I)Z" } : Jvm.MethodName) prog_7_method_2_code (1 : Nat) (Option.some Jvm.ClassFile.FieldType.boolean), Jvm.Cond.code ({ cls := "org/surnia/datatypes/NameCharactersIsNameStartCharPinLaw", name := "outside", desc := "(I)Z" } : Jvm.MethodName) method_3_code (1 : Nat) (Option.some Jvm.ClassFile.FieldType.boolean)]
set_option maxRecDepth 65536 in
theorem codes_eq : words1.filter isCode = codes1 := rfl
theorem w_codes : ∀ c ∈ words1.filter isCode, c.before args0 about1 = true := by
  rw [codes_eq]
  intro c hc
  simp only [codes1, List.mem_cons, List.not_mem_nil, or_false] at hc
  rcases hc with rfl | rfl | rfl
  · exact w_c0
  · exact w_c1
  · exact w_c2
set_option maxRecDepth 65536 in
theorem w_t1 : (words1.take 24).all (fun c => isCode c || c.before args0 about1) = true := by decide +kernel
set_option maxRecDepth 65536 in
theorem w_t2 : (words1.drop 24).all (fun c => isCode c || c.before args0 about1) = true := by decide +kernel
theorem w_tables : (allAtoms (Jvm.Cond.code x code maxLocals ret :: tables_1)).before args0 about1 = true := by
  rw [allAtoms_all]
  show words1.all (fun c => c.before args0 about1) = true
  refine all_split ?_ w_codes
  rw [← List.take_append_drop 24 words1, List.all_append, w_t1, w_t2]
  rfl
set_option maxRecDepth 65536 in
theorem w_case : (Jvm.Cond.and given_1 narrow_1).before args0 about1 = true := by decide +kernel
theorem w_applies : (headSpec (Jvm.Cond.code x code maxLocals ret :: tables_1) room_1).applies x e0.platform about1 = true :=
  (Spec.applies_iff w_frames).mpr ⟨w_running, w_runnable, w_alone, w_named, w_hears, w_ripe, w_room, w_tables⟩
theorem atStart : AtStart classFile x code maxLocals ret World_1 tables_1 room_1 Calls_1 rest_1 Pre_1 launch0 p0 e0 about1 theMethod args0 below0 :=
  ⟨lists_1, trivial, launch0.admits_env _ _ _, launch0.least_env, fairChoices_fair.cas, fairChoices_fair.clock, w_frames, w_args, w_heap, w_applies, trivial, trivial, w_case⟩
end start1
theorem witness_1 : WitnessClaimed_1 := ⟨start1.p0, start1.e0, start1.about1, start1.theMethod, start1.args0, start1.below0, start1.atStart⟩
end Jvm.Pilot.@@N@@
