import JvmDerived
import JvmDerived.Pilot.@@N@@Statement
import JvmDerived.Pilot.@@N@@Code
set_option linter.unusedVariables false
set_option linter.unusedSimpArgs false
@@BLOCK:NumsL.lean.txt@@
namespace Jvm.RoadKit
open Sem ClassFile Op Lib Jvm.Stand Jvm.Free Jvm.LawKit
section Own
variable {p : Program} {l : Launch} {e : Env} {R : Room} {s : State} {m : MethodId} {args : Array Value} {below : List Frame} {meth : Method} {c : Code} {T : State} {locs : List Loc} {cells slots : Nat} {Z : State} {h h' : Heap} {Q : Option Value → Heap → List Loc → Prop} {kc ks : Nat}
/-- from the state S the run comes to an end of which Q holds -/
def OGo (p : Program) (e : Env) (below : List Frame) (s : State) (Q : Option Value → Heap → List Loc → Prop) (kc ks : Nat) (S : State) : Prop :=
  ∃ s₂ o, Steps p.tables e below S s₂ ∧ s₂.status = .running ∧ Ended s₂ below o ∧ ∃ v L, o = .returned v ∧ Q v s₂.heap L ∧ FrameEnd s o s₂ L kc ks
theorem OGo.on {C N : State} (st : ∀ t, Steps p.tables e below N t → Steps p.tables e below C t) (h : OGo p e below s Q kc ks N) : OGo p e below s Q kc ks C := by
  obtain ⟨s₂, o, h1, h2⟩ := h
  exact ⟨s₂, o, st _ h1, h2⟩
theorem OGo.fin (X : Stand p l e R s m args below meth c T locs cells slots) {v : Option Value} (hv : meth.sig.returnType = none → v = none) (hlocks : meth.locks = false) {C : State}
    (st : ∀ fs, (∀ (f : JFrame) (acts : List Action), f.method = m → f.locked = none → f.entered = [] → (doReturn e (T.setTop f) acts v).1 = T.setFrames fs) → Steps p.tables e below C (T.setFrames fs)) (hq : Q v T.heap locs) (hc : cells ≤ kc) (hs : slots ≤ ks) : OGo p e below s Q kc ks C := by
  obtain ⟨fs, hr, hrun, hended, hW, hsame⟩ := X.leave hv hlocks
  exact ⟨_, _, st fs hr, hrun, hended, v, locs, rfl, hq, ⟨_, rfl⟩, hW, hsame.mono hc hs⟩
theorem OGo.retN (X : Stand p l e R s m args below meth c T locs cells slots) (hx : p.tables.exec = Jvm.exec) {pc : Nat} {Ls : Array Slot} {z : Int32} {t : FieldType} {rest : List Value} (hret : meth.sig.returnType = some t) (hlocks : meth.locks = false) (ht : t = .boolean ∨ t = .byte ∨ t = .char ∨ t = .short)
    (hd : decode c.code pc = .ok (.ireturn, 1)) (hq : Q (some (.int (nar t z))) T.heap locs) (hc : cells ≤ kc) (hs : slots ≤ ks) : OGo p e below s Q kc ks (T.setTop (mkF m pc Ls (.int z :: rest))) :=
  OGo.fin X (fun h => by rw [hret] at h; cases h) hlocks (fun fs hr => Jvm.RoadKit.retN X hx hret ht hd hr) hq hc hs
theorem OGo.retI (X : Stand p l e R s m args below meth c T locs cells slots) (hx : p.tables.exec = Jvm.exec) {pc : Nat} {Ls : Array Slot} {z : Int32} {rest : List Value} (hret : meth.sig.returnType = some .int) (hlocks : meth.locks = false)
    (hd : decode c.code pc = .ok (.ireturn, 1)) (hq : Q (some (.int z)) T.heap locs) (hc : cells ≤ kc) (hs : slots ≤ ks) : OGo p e below s Q kc ks (T.setTop (mkF m pc Ls (.int z :: rest))) :=
  OGo.fin X (fun h => by rw [hret] at h; cases h) hlocks (fun fs hr => retOut X hx hret rfl (Or.inl ⟨rfl, Or.inl rfl, _, rfl⟩) hd hr) hq hc hs
theorem OGo.retJ (X : Stand p l e R s m args below meth c T locs cells slots) (hx : p.tables.exec = Jvm.exec) {pc : Nat} {Ls : Array Slot} {z : Int64} {rest : List Value} (hret : meth.sig.returnType = some .long) (hlocks : meth.locks = false)
    (hd : decode c.code pc = .ok (.lreturn, 1)) (hq : Q (some (.long z)) T.heap locs) (hc : cells ≤ kc) (hs : slots ≤ ks) : OGo p e below s Q kc ks (T.setTop (mkF m pc Ls (.long z :: rest))) :=
  OGo.fin X (fun h => by rw [hret] at h; cases h) hlocks (fun fs hr => retOut X hx hret rfl (Or.inr (Or.inl ⟨rfl, rfl, _, rfl⟩)) hd hr) hq hc hs
theorem OGo.retA (X : Stand p l e R s m args below meth c T locs cells slots) (hx : p.tables.exec = Jvm.exec) {pc : Nat} {Ls : Array Slot} {a : Addr} {t : FieldType} {rest : List Value} (hret : meth.sig.returnType = some t) (ht : t.isReference = true) (hn : narrow t (.ref a) = .ref a) (hlocks : meth.locks = false)
    (hd : decode c.code pc = .ok (.areturn, 1)) (hq : Q (some (.ref a)) T.heap locs) (hc : cells ≤ kc) (hs : slots ≤ ks) : OGo p e below s Q kc ks (T.setTop (mkF m pc Ls (.ref a :: rest))) :=
  OGo.fin X (fun h => by rw [hret] at h; cases h) hlocks (fun fs hr => retOut X hx hret hn (Or.inr (Or.inr (Or.inr (Or.inr ⟨rfl, ht, rfl⟩)))) hd hr) hq hc hs
theorem OGo.ret0 (X : Stand p l e R s m args below meth c T locs cells slots) (hx : p.tables.exec = Jvm.exec) {pc : Nat} {Ls : Array Slot} (hret : meth.sig.returnType = none) (hlocks : meth.locks = false)
    (hd : decode c.code pc = .ok (.return_, 1)) (hq : Q none T.heap locs) (hc : cells ≤ kc) (hs : slots ≤ ks) : OGo p e below s Q kc ks (T.setTop (mkF m pc Ls [])) :=
  OGo.fin X (fun _ => rfl) hlocks (fun fs hr => X.returnOut hx hret hd hr) hq hc hs
/-- the places written so far, without their names -/
theorem own_hide {k : Nat} (X : Stand p l e R s m args below meth c T locs cells slots) (N : Fr k locs) : ∃ L, Stand p l e R s m args below meth c T L cells slots ∧ Fr k L := ⟨_, X, N⟩
/-- what a body that writes nothing leaves -/
def OPure (n0 : Nat) (h0 : Heap) (r : Option Value) (v : Option Value) (h : Heap) (L : List Loc) : Prop := v = r ∧ Fr n0 L ∧ h = h0
theorem opI {n0 : Nat} {h0 : Heap} {x y : Int32} {L : List Loc} (q : x = y) (N : Fr n0 L) (E : h = h0) : OPure n0 h0 (some (.int y)) (some (.int x)) h L := ⟨by rw [q], N, E⟩
theorem opJ {n0 : Nat} {h0 : Heap} {x y : Int64} {L : List Loc} (q : x = y) (N : Fr n0 L) (E : h = h0) : OPure n0 h0 (some (.long y)) (some (.long x)) h L := ⟨by rw [q], N, E⟩
theorem own_nz1 : nar .boolean 1 = 1 := rfl
theorem own_nz0 : nar .boolean 0 = 0 := rfl
theorem own_irem {C : State} {x y : Int32} {g : JFrame} (X : Stand p l e R s m args below meth c T locs cells slots) (hx : p.tables.exec = Jvm.exec) (hg : g.method = m) {rest : List Value} (hd : decode c.code g.pc = .ok (.irem, 1)) (hs : g.stack = .int y :: .int x :: rest) (hy : y ≠ 0) :
    ∀ t, Steps p.tables e below (T.setTop { g with pc := g.pc + 1, stack := .int (x % y) :: rest }) t → Steps p.tables e below (T.setTop g) t := fun t k => iremM X hx hg hd hs hy k
/-! lcmp and the branch behind it -/
theorem own_lc (cd : ClassFile.Cond) (a b : Int64) : ifCond.holds cd (lcmpW a b) = (match cd with | .eq => decide (a = b) | .ne => !decide (a = b) | .lt => decide (a < b) | .ge => !decide (a < b) | .gt => decide (b < a) | .le => !decide (b < a)) := by
  have h1 : a = b ↔ a.toInt = b.toInt := (Int64.toInt_inj).symm
  by_cases g : a > b
  · have g' : b.toInt < a.toInt := Int64.lt_iff_toInt_lt.mp g
    have e1 : lcmpW a b = 1 := if_pos g
    have e2 : ¬ a = b := fun q => by rw [h1] at q; omega
    have e3 : ¬ a < b := fun q => by rw [Int64.lt_iff_toInt_lt] at q; omega
    have e4 : b < a := g
    rw [e1]; cases cd <;> simp [e2, e3, e4] <;> decide
  · by_cases q : a = b
    · have e1 : lcmpW a b = 0 := by rw [lcmpW, if_neg g, if_pos q]
      subst q
      have e3 : ¬ a < a := fun q => by rw [Int64.lt_iff_toInt_lt] at q; omega
      rw [e1]; cases cd <;> simp [e3] <;> decide
    · have e1 : lcmpW a b = -1 := by rw [lcmpW, if_neg g, if_neg q]
      have g1 : ¬ b < a := g
      have g2 : a < b := by rw [Int64.lt_iff_toInt_lt] at g1 ⊢; rw [h1] at q; omega
      rw [e1]; cases cd <;> simp [q, g1, g2] <;> decide
theorem lc_tlt {a b : Int64} (h : a < b) : ifCond.holds .lt (lcmpW a b) = true ∧ ifCond.holds .ge (lcmpW a b) = false ∧ ifCond.holds .gt (lcmpW b a) = true ∧ ifCond.holds .le (lcmpW b a) = false := by simp only [own_lc]; simp [h]
theorem lc_flt {a b : Int64} (h : ¬ a < b) : ifCond.holds .lt (lcmpW a b) = false ∧ ifCond.holds .ge (lcmpW a b) = true ∧ ifCond.holds .gt (lcmpW b a) = false ∧ ifCond.holds .le (lcmpW b a) = true := by simp only [own_lc]; simp [h]
theorem lc_teq {a b : Int64} (h : a = b) : ifCond.holds .eq (lcmpW a b) = true ∧ ifCond.holds .ne (lcmpW a b) = false := by simp only [own_lc]; simp [h]
theorem lc_feq {a b : Int64} (h : ¬ a = b) : ifCond.holds .eq (lcmpW a b) = false ∧ ifCond.holds .ne (lcmpW a b) = true := by simp only [own_lc]; simp [h]
theorem own_nm0 {a : Addr} : a ∉ ([] : List Addr) := fun q => nomatch q
theorem own_nm1 {a b : Addr} (h : a ≠ b) : a ∉ [b] := fun q => h (List.mem_singleton.mp q)
theorem own_nm2 {a b d : Addr} (h : a ≠ b) (h' : a ≠ d) : a ∉ [b, d] := fun q => (List.mem_cons.mp q).elim h fun q => h' (List.mem_singleton.mp q)
theorem own_nm3 {a b d f : Addr} (h : a ≠ b) (h' : a ≠ d) (h'' : a ≠ f) : a ∉ [b, d, f] := fun q => (List.mem_cons.mp q).elim h fun q => (own_nm2 h' h'') q
/-! arrays of numbers, known whole -/
/-- the array at a holds just the ints vs -/
def OAL (Z : State) (h : Heap) (a : Addr) (ty : FieldType) (vs : List Int32) : Prop := ∃ c : Cell, Arr Z h a c ty ∧ c.slots = (vs.map Value.int).toArray
/-- the array at a holds just the longs vs -/
def OAJ (Z : State) (h : Heap) (a : Addr) (vs : List Int64) : Prop := ∃ c : Cell, Arr Z h a c .long ∧ c.slots = (vs.map Value.long).toArray
/-- the place j lies inside and holds v -/
def OAt {α : Type} (vs : List α) (j : Int32) (v : α) : Prop := ¬ j < 0 ∧ vs[j.toNatClampNeg]? = some v
variable {a b : Addr} {ty : FieldType} {vs : List Int32} {us : List Int64} {ws : List Addr} {sl : Nat} {w : Value}
theorem OAL.lt (A : OAL Z h a ty vs) : a < h.size := by obtain ⟨c, A, -⟩ := A; exact A.lt
theorem OAJ.lt (A : OAJ Z h a us) : a < h.size := by obtain ⟨c, A, -⟩ := A; exact A.lt
theorem OAL.ext (A : OAL Z h a ty vs) (E : Ext h h') : OAL Z h' a ty vs := by obtain ⟨c, A, r⟩ := A; exact ⟨c, A.ext E, r⟩
theorem OAJ.ext (A : OAJ Z h a us) (E : Ext h h') : OAJ Z h' a us := by obtain ⟨c, A, r⟩ := A; exact ⟨c, A.ext E, r⟩
theorem OAL.keep (A : OAL Z h a ty vs) (K : Keep h h' ws) (q : a ∉ ws) : OAL Z h' a ty vs := by obtain ⟨c, A, r⟩ := A; exact ⟨c, ⟨K.2.1 a c A.1 q, A.2⟩, r⟩
theorem OAJ.keep (A : OAJ Z h a us) (K : Keep h h' ws) (q : a ∉ ws) : OAJ Z h' a us := by obtain ⟨c, A, r⟩ := A; exact ⟨c, ⟨K.2.1 a c A.1 q, A.2⟩, r⟩
theorem OAL.other (A : OAL Z h b ty vs) (W : Wr h h' a sl w) (q : b ≠ a) : OAL Z h' b ty vs := by obtain ⟨c, A, r⟩ := A; exact ⟨c, A.other W q, r⟩
theorem OAJ.other (A : OAJ Z h b us) (W : Wr h h' a sl w) (q : b ≠ a) : OAJ Z h' b us := by obtain ⟨c, A, r⟩ := A; exact ⟨c, A.other W q, r⟩
theorem own_slots (cl : Cell) (i : Nat) (v : Value) : (cl.setSlot i v).slots = cl.slots.setIfInBounds i v := rfl
theorem OAL.same (A : OAL Z h a ty vs) {i : Nat} {x : Int32} (W : Wr h h' a i (.int x)) : OAL Z h' a ty (vs.set i x) := by
  obtain ⟨c, A, r⟩ := A
  exact ⟨_, A.same W, by rw [own_slots, r]; simp [List.map_set]⟩
theorem OAJ.same (A : OAJ Z h a us) {i : Nat} {x : Int64} (W : Wr h h' a i (.long x)) : OAJ Z h' a (us.set i x) := by
  obtain ⟨c, A, r⟩ := A
  exact ⟨_, A.same W, by rw [own_slots, r]; simp [List.map_set]⟩
theorem OAL.new {cA : ClassId} {n : Int32} (A : Arr Z h a (newA cA ty n) ty) (q : defaultValue ty = .int 0) : OAL Z h a ty (List.replicate n.toNatClampNeg 0) := ⟨_, A, by
  show Array.replicate n.toNatClampNeg (defaultValue ty) = _
  rw [q]; simp⟩
theorem OAJ.new {cA : ClassId} {n : Int32} (A : Arr Z h a (newA cA .long n) .long) : OAJ Z h a (List.replicate n.toNatClampNeg 0) := ⟨_, A, by
  show Array.replicate n.toNatClampNeg (Value.long 0) = _
  simp⟩
theorem own_in {α : Type} {vs : List α} {f : α → Value} {j : Int32} {v : α} {cl : Cell} (r : cl.slots = (vs.map f).toArray) (q : OAt vs j v) : ¬ (j < 0 ∨ cl.slots.size ≤ j.toNatClampNeg) ∧ cl.slots[j.toNatClampNeg]? = some (f v) := by
  obtain ⟨q1, q2⟩ := q
  have hl := (List.getElem?_eq_some_iff.mp q2).1
  rw [r]
  refine ⟨fun z => z.elim q1 fun y => ?_, ?_⟩
  · simp at y; omega
  · simp [q2]
theorem OAL.baB (X : Stand p l e R s m args below meth c T locs cells slots) (hx : p.tables.exec = Jvm.exec) (hZ : Z.Warmed39 s.vm) (eT : T.heap = h) (A : OAL Z h a .byte vs) {j v : Int32} (q : OAt vs j v) {pc : Nat} {Ls : Array Slot} {rest : List Value} (hd : decode c.code pc = .ok (.baload, 1)) {t : State}
    (k : Steps p.tables e below (T.setTop (mkF m (pc + 1) Ls (.int v :: rest))) t) : Steps p.tables e below (T.setTop (mkF m pc Ls (.int j :: .ref a :: rest))) t := by
  obtain ⟨cl, A, r⟩ := A
  exact X.baloadBytes hx (j := j) (v := .int v) (by rw [eT]; exact A.1) (State.isArrayOf_alike hZ.alike A.2.1) A.2.2 (own_in r q).1 (own_in r q).2 (g := mkF m pc Ls (.int j :: .ref a :: rest)) rfl rfl hd _ k
theorem OAL.baZ (X : Stand p l e R s m args below meth c T locs cells slots) (hx : p.tables.exec = Jvm.exec) (hZ : Z.Warmed39 s.vm) (eT : T.heap = h) (A : OAL Z h a .boolean vs) {j v : Int32} (q : OAt vs j v) {pc : Nat} {Ls : Array Slot} {rest : List Value} (hd : decode c.code pc = .ok (.baload, 1)) {t : State}
    (k : Steps p.tables e below (T.setTop (mkF m (pc + 1) Ls (.int v :: rest))) t) : Steps p.tables e below (T.setTop (mkF m pc Ls (.int j :: .ref a :: rest))) t := by
  obtain ⟨cl, A, r⟩ := A
  exact X.baloadBooleans hx (j := j) (v := .int v) (by rw [eT]; exact A.1) (State.isArrayOf_alike hZ.alike A.2.1) A.2.2 (own_in r q).1 (own_in r q).2 (g := mkF m pc Ls (.int j :: .ref a :: rest)) rfl rfl hd _ k
theorem OAL.ia (X : Stand p l e R s m args below meth c T locs cells slots) (hx : p.tables.exec = Jvm.exec) (hZ : Z.Warmed39 s.vm) (eT : T.heap = h) (A : OAL Z h a .int vs) {j v : Int32} (q : OAt vs j v) {pc : Nat} {Ls : Array Slot} {rest : List Value} (hd : decode c.code pc = .ok (.iaload, 1)) {t : State}
    (k : Steps p.tables e below (T.setTop (mkF m (pc + 1) Ls (.int v :: rest))) t) : Steps p.tables e below (T.setTop (mkF m pc Ls (.int j :: .ref a :: rest))) t := by
  obtain ⟨cl, A, r⟩ := A
  exact X.iaload hx (j := j) (v := .int v) (by rw [eT]; exact A.1) (State.isArrayOf_alike hZ.alike A.2.1) A.2.2 (own_in r q).1 (own_in r q).2 (g := mkF m pc Ls (.int j :: .ref a :: rest)) rfl rfl hd _ k
theorem OAJ.la (X : Stand p l e R s m args below meth c T locs cells slots) (hx : p.tables.exec = Jvm.exec) (hZ : Z.Warmed39 s.vm) (eT : T.heap = h) (A : OAJ Z h a us) {j : Int32} {v : Int64} (q : OAt us j v) {pc : Nat} {Ls : Array Slot} {rest : List Value} (hd : decode c.code pc = .ok (.laload, 1)) {t : State}
    (k : Steps p.tables e below (T.setTop (mkF m (pc + 1) Ls (.long v :: rest))) t) : Steps p.tables e below (T.setTop (mkF m pc Ls (.int j :: .ref a :: rest))) t := by
  obtain ⟨cl, A, r⟩ := A
  exact X.laload hx (j := j) (v := .long v) (by rw [eT]; exact A.1) (State.isArrayOf_alike hZ.alike A.2.1) A.2.2 (own_in r q).1 (own_in r q).2 (g := mkF m pc Ls (.int j :: .ref a :: rest)) rfl rfl hd _ k
theorem OAL.len (X : Stand p l e R s m args below meth c T locs cells slots) (hx : p.tables.exec = Jvm.exec) (hZ : Z.Warmed39 s.vm) (eT : T.heap = h) (A : OAL Z h a ty vs) {n : Int32} (q : vs.length.toInt32 = n) {pc : Nat} {Ls : Array Slot} {rest : List Value} (hd : decode c.code pc = .ok (.arraylength, 1)) {t : State}
    (k : Steps p.tables e below (T.setTop (mkF m (pc + 1) Ls (.int n :: rest))) t) : Steps p.tables e below (T.setTop (mkF m pc Ls (.ref a :: rest))) t := by
  obtain ⟨cl, A, r⟩ := A
  have z : cl.slots.size = vs.length := by rw [r]; simp
  exact X.arraylength hx (by rw [eT]; exact A.1) (State.isArrayOf_alike hZ.alike A.2.1) (g := mkF m pc Ls (.ref a :: rest)) rfl rfl hd _ (by rw [z, q]; exact k)
theorem OAJ.len (X : Stand p l e R s m args below meth c T locs cells slots) (hx : p.tables.exec = Jvm.exec) (hZ : Z.Warmed39 s.vm) (eT : T.heap = h) (A : OAJ Z h a us) {n : Int32} (q : us.length.toInt32 = n) {pc : Nat} {Ls : Array Slot} {rest : List Value} (hd : decode c.code pc = .ok (.arraylength, 1)) {t : State}
    (k : Steps p.tables e below (T.setTop (mkF m (pc + 1) Ls (.int n :: rest))) t) : Steps p.tables e below (T.setTop (mkF m pc Ls (.ref a :: rest))) t := by
  obtain ⟨cl, A, r⟩ := A
  have z : cl.slots.size = us.length := by rw [r]; simp
  exact X.arraylength hx (by rw [eT]; exact A.1) (State.isArrayOf_alike hZ.alike A.2.1) (g := mkF m pc Ls (.ref a :: rest)) rfl rfl hd _ (by rw [z, q]; exact k)
theorem own_into {α : Type} {vs : List α} {f : α → Value} {j : Int32} {cl : Cell} (r : cl.slots = (vs.map f).toArray) (q1 : ¬ j < 0) (q2 : j.toNatClampNeg < vs.length) : ¬ (j < 0 ∨ cl.slots.size ≤ j.toNatClampNeg) := by
  rw [r]
  exact fun z => z.elim q1 fun y => by simp at y; omega
theorem OAL.stB (X : Stand p l e R s m args below meth c T locs cells slots) (hx : p.tables.exec = Jvm.exec) (hZ : Z.Warmed39 s.vm) (eT : T.heap = h) (A : OAL Z h a .byte vs) {j x : Int32} (q1 : ¬ j < 0) (q2 : j.toNatClampNeg < vs.length) {pc : Nat} {Ls : Array Slot} {rest : List Value} (hd : decode c.code pc = .ok (.bastore, 1)) :
    ∃ T' h', Stand p l e R s m args below meth c T' (locs ++ [⟨a, j.toNatClampNeg⟩]) cells slots ∧ T'.heap = h' ∧ Wr h h' a j.toNatClampNeg (.int (nar .byte x)) ∧ OAL Z h' a .byte (vs.set j.toNatClampNeg (nar .byte x)) ∧ ∀ t, Steps p.tables e below (T'.setTop (mkF m (pc + 1) Ls rest)) t → Steps p.tables e below (T.setTop (mkF m pc Ls (.int x :: .int j :: .ref a :: rest))) t := by
  obtain ⟨cl, A', r⟩ := A
  obtain ⟨T', h', X', e', W', st⟩ := Jvm.RoadKit.stB X hx hZ eT A' (j := j) (x := x) (own_into r q1 q2) (g := mkF m pc Ls (.int x :: .int j :: .ref a :: rest)) rfl rfl hd
  exact ⟨T', h', X', e', W', OAL.same ⟨cl, A', r⟩ W', st⟩
theorem OAL.stZ (X : Stand p l e R s m args below meth c T locs cells slots) (hx : p.tables.exec = Jvm.exec) (hZ : Z.Warmed39 s.vm) (eT : T.heap = h) (A : OAL Z h a .boolean vs) {j x : Int32} (q1 : ¬ j < 0) (q2 : j.toNatClampNeg < vs.length) {pc : Nat} {Ls : Array Slot} {rest : List Value} (hd : decode c.code pc = .ok (.bastore, 1)) :
    ∃ T' h', Stand p l e R s m args below meth c T' (locs ++ [⟨a, j.toNatClampNeg⟩]) cells slots ∧ T'.heap = h' ∧ Wr h h' a j.toNatClampNeg (.int (nar .boolean x)) ∧ OAL Z h' a .boolean (vs.set j.toNatClampNeg (nar .boolean x)) ∧ ∀ t, Steps p.tables e below (T'.setTop (mkF m (pc + 1) Ls rest)) t → Steps p.tables e below (T.setTop (mkF m pc Ls (.int x :: .int j :: .ref a :: rest))) t := by
  obtain ⟨cl, A', r⟩ := A
  obtain ⟨T', h', X', e', W', st⟩ := Jvm.RoadKit.stZ X hx hZ eT A' (j := j) (x := x) (own_into r q1 q2) (g := mkF m pc Ls (.int x :: .int j :: .ref a :: rest)) rfl rfl hd
  exact ⟨T', h', X', e', W', OAL.same ⟨cl, A', r⟩ W', st⟩
theorem OAL.stI (X : Stand p l e R s m args below meth c T locs cells slots) (hx : p.tables.exec = Jvm.exec) (hZ : Z.Warmed39 s.vm) (eT : T.heap = h) (A : OAL Z h a .int vs) {j x : Int32} (q1 : ¬ j < 0) (q2 : j.toNatClampNeg < vs.length) {pc : Nat} {Ls : Array Slot} {rest : List Value} (hd : decode c.code pc = .ok (.iastore, 1)) :
    ∃ T' h', Stand p l e R s m args below meth c T' (locs ++ [⟨a, j.toNatClampNeg⟩]) cells slots ∧ T'.heap = h' ∧ Wr h h' a j.toNatClampNeg (.int x) ∧ OAL Z h' a .int (vs.set j.toNatClampNeg x) ∧ ∀ t, Steps p.tables e below (T'.setTop (mkF m (pc + 1) Ls rest)) t → Steps p.tables e below (T.setTop (mkF m pc Ls (.int x :: .int j :: .ref a :: rest))) t := by
  obtain ⟨cl, A', r⟩ := A
  obtain ⟨T', h', X', e', W', st⟩ := Jvm.RoadKit.stI X hx hZ eT A' (j := j) (x := x) (own_into r q1 q2) (g := mkF m pc Ls (.int x :: .int j :: .ref a :: rest)) rfl rfl hd
  exact ⟨T', h', X', e', W', OAL.same ⟨cl, A', r⟩ W', st⟩
theorem OAJ.stJ (X : Stand p l e R s m args below meth c T locs cells slots) (hx : p.tables.exec = Jvm.exec) (hZ : Z.Warmed39 s.vm) (eT : T.heap = h) (A : OAJ Z h a us) {j : Int32} {x : Int64} (q1 : ¬ j < 0) (q2 : j.toNatClampNeg < us.length) {pc : Nat} {Ls : Array Slot} {rest : List Value} (hd : decode c.code pc = .ok (.lastore, 1)) :
    ∃ T' h', Stand p l e R s m args below meth c T' (locs ++ [⟨a, j.toNatClampNeg⟩]) cells slots ∧ T'.heap = h' ∧ Wr h h' a j.toNatClampNeg (.long x) ∧ OAJ Z h' a (us.set j.toNatClampNeg x) ∧ ∀ t, Steps p.tables e below (T'.setTop (mkF m (pc + 1) Ls rest)) t → Steps p.tables e below (T.setTop (mkF m pc Ls (.long x :: .int j :: .ref a :: rest))) t := by
  obtain ⟨cl, A', r⟩ := A
  obtain ⟨T', h', X', e', W', st⟩ := Jvm.RoadKit.stJ X hx hZ eT A' (j := j) (x := x) (own_into r q1 q2) (g := mkF m pc Ls (.long x :: .int j :: .ref a :: rest)) rfl rfl hd
  exact ⟨T', h', X', e', W', OAJ.same ⟨cl, A', r⟩ W', st⟩
end Own
end Jvm.RoadKit
namespace Jvm.Pilot.@@N@@
open Jvm Jvm.ClassFile Sem Op Lib Jvm.Free Jvm.Stand Jvm.LawKit Jvm.RoadKit Bundle Jvm.Pilot.@@N@@.Jvm.D
/-! numbers without sign -/
def n32 (y : Int32) : Nat := y.toBitVec.toNat
def n64 (x : Int64) : Nat := x.toBitVec.toNat
theorem n32_lt (y : Int32) : n32 y < 2 ^ 32 := y.toBitVec.isLt
theorem n64_lt (x : Int64) : n64 x < 2 ^ 64 := x.toBitVec.isLt
theorem n64_inj {x y : Int64} (h : n64 x = n64 y) : x = y := Int64.toBitVec_inj.mp (BitVec.eq_of_toNat_eq h)
theorem n32_inj {x y : Int32} (h : n32 x = n32 y) : x = y := Int32.toBitVec_inj.mp (BitVec.eq_of_toNat_eq h)
theorem own_b8 (z : Int8) : n64 (z.toInt32.toInt8.toInt32.toInt64 &&& 255) = z.toBitVec.toNat := by
  have k : ∀ n : Fin 256, n64 ((Int8.ofBitVec (BitVec.ofFin n)).toInt32.toInt8.toInt32.toInt64 &&& 255) = n.val := by decide +kernel
  exact k z.toBitVec.toFin
theorem n8_of32 (y : Int32) : y.toInt8.toBitVec.toNat = n32 y % 256 := by
  show (y.toBitVec.signExtend 8).toNat = y.toBitVec.toNat % 256
  rw [BitVec.signExtend_eq_setWidth_of_le _ (by decide), BitVec.toNat_setWidth]
theorem own_byte (y : Int32) : n64 (y.toInt8.toInt32.toInt8.toInt32.toInt64 &&& 255) = n32 y % 256 := by rw [own_b8, n8_of32]
theorem n32_of64 (x : Int64) : n32 x.toInt32 = n64 x % 2 ^ 32 := by
  show (x.toBitVec.signExtend 32).toNat = x.toBitVec.toNat % 2 ^ 32
  rw [BitVec.signExtend_eq_setWidth_of_le _ (by decide), BitVec.toNat_setWidth]
theorem n32_shr (x : Int32) {n : UInt32} {k : Nat} (hn : n.toNat = k) (hk : k < 32) : n32 (x.toUInt32 >>> n).toInt32 = n32 x / 2 ^ k := by
  show (x.toUInt32 >>> n).toNat = x.toUInt32.toNat / 2 ^ k
  rw [UInt32.toNat_shiftRight, hn, Nat.mod_eq_of_lt hk, Nat.shiftRight_eq_div_pow]
theorem n64_shr (x : Int64) {n : UInt64} {k : Nat} (hn : n.toNat = k) (hk : k < 64) : n64 (x.toUInt64 >>> n).toInt64 = n64 x / 2 ^ k := by
  show (x.toUInt64 >>> n).toNat = x.toUInt64.toNat / 2 ^ k
  rw [UInt64.toNat_shiftRight, hn, Nat.mod_eq_of_lt hk, Nat.shiftRight_eq_div_pow]
theorem n64_shl (x n : Int64) {k : Nat} (hn : (n.toBitVec.smod 64).toNat = k) (h : n64 x * 2 ^ k < 2 ^ 64) : n64 (x <<< n) = n64 x * 2 ^ k := by
  show (x.toBitVec <<< (n.toBitVec.smod 64)).toNat = x.toBitVec.toNat * 2 ^ k
  rw [BitVec.shiftLeft_eq', hn, BitVec.toNat_shiftLeft, Nat.shiftLeft_eq]
  exact Nat.mod_eq_of_lt h
theorem n64_or {x y : Int64} {k q : Nat} (hx : n64 x < 2 ^ k) (hy : n64 y = q * 2 ^ k) : n64 (x ||| y) = n64 x + n64 y := by
  show (x.toBitVec ||| y.toBitVec).toNat = _
  rw [BitVec.toNat_or]
  have e : y.toBitVec.toNat = q <<< k := by rw [Nat.shiftLeft_eq]; exact hy
  have f := Nat.shiftLeft_add_eq_or_of_lt hx q
  rw [Nat.or_comm, e]
  show q <<< k ||| n64 x = n64 x + n64 y
  rw [← f, hy, Nat.shiftLeft_eq, Nat.add_comm]
theorem n64_or' {x y : Int64} {k q : Nat} (hx : n64 x < 2 ^ k) (hy : n64 y = q * 2 ^ k) : n64 (y ||| x) = n64 y + n64 x := by
  have e : y ||| x = x ||| y := Int64.or_comm y x
  rw [e, n64_or hx hy, Nat.add_comm]

theorem own_fin (b k : Int32) {m : Nat} (hm : m < 32) (hk : k.toBitVec.toNat = 2 ^ m - 1) : ∃ n : Nat, n < 2 ^ m ∧ b &&& k = Int32.ofNat n := by
  have e := Jvm.Kit.i32_mask b k hm hk
  have p : (0 : Int) < 2 ^ m := Int.pow_pos (by decide)
  have h1 := Int.emod_nonneg b.toInt (b := 2 ^ m) (by omega)
  have h2 := Int.emod_lt_of_pos b.toInt p
  have h3 : (2 : Nat) ^ m ≤ 2 ^ 31 := Nat.pow_le_pow_right (by decide) (by omega)
  have h4 : ((2 ^ m : Nat) : Int) = (2 : Int) ^ m := by simp
  refine ⟨(b.toInt % 2 ^ m).toNat, by omega, ?_⟩
  rw [← Int32.toInt_inj, e, Int32.toInt_ofNat_of_lt (by omega)]; omega

def own_cl (w x o c : Int32) : Int64 := w.toInt64 * (if 0 < x - o then (if c = 0 then 1 else 2) else (if c = 0 then 0 else 1))
def own_max (a b : Int32) : Int32 := if a < b then b else a
def own_cnt (x c : Int32) : Int32 := own_max 0 (x - 1) + (if c = 0 then 0 else x)
def own_bitp (b p : Int32) : Int32 := if (b >>> (p &&& 31)) &&& 1 = 0 then 0 else 1
def own_bef (k ao same : Int32) : Int32 := k + (if ao = 0 then 0 else if same = 0 then 0 else 1)
def own_o (t w : Int32) : Int32 := if 0 < t then w &&& 1 else 0
def own_w (dr b c : Int32) : Int64 := if dr = 0 then 1 else if b < 2 then (if c = 0 then 1 else if b < 1 then 1 else 2) else 2
def own_e (w : Int64) (t o c : Int32) : Int64 := w * (if 0 < t - o then (if c = 0 then 1 else 2) else (if c = 0 then 0 else 1))
def own_L (b c : Int32) : Prop := 1 < b ∨ (¬ c = 0 ∧ 0 < b)
def InN (m : Nat) (i : Int32) : Prop := ∃ n : Fin m, i = Int32.ofNat n.val
theorem in_1 (a : Int32) : InN 2 (a &&& 1) := by
  obtain ⟨n, hn, q⟩ := own_fin a 1 (m := 1) (by decide) (by decide)
  exact ⟨⟨n, hn⟩, q⟩
theorem in_3 (a : Int32) : InN 4 (a &&& 3) := by
  obtain ⟨n, hn, q⟩ := own_fin a 3 (m := 2) (by decide) (by decide)
  exact ⟨⟨n, hn⟩, q⟩
theorem in_r3 (a : Int32) : InN 3 (((a.toUInt32 >>> ((1 : Int32) &&& 31).toUInt32).toInt32) % 3) := by
  have e := n32_shr a (n := ((1 : Int32) &&& 31).toUInt32) (k := 1) (by decide) (by decide)
  have l := n32_lt a
  have nn : 0 ≤ ((a.toUInt32 >>> ((1 : Int32) &&& 31).toUInt32).toInt32).toInt := by
    have e1 : ((a.toUInt32 >>> ((1 : Int32) &&& 31).toUInt32).toInt32).toInt = (((a.toUInt32 >>> ((1 : Int32) &&& 31).toUInt32).toInt32).toBitVec).toInt := rfl
    rw [e1, BitVec.toInt_eq_toNat_cond]
    unfold n32 at *
    split <;> omega
  have e2 := Jvm.Kit.i32_rem_nonneg (y := 3) nn
  have k3 : (3 : Int32).toInt = 3 := by decide
  rw [k3] at e2
  generalize ((a.toUInt32 >>> ((1 : Int32) &&& 31).toUInt32).toInt32) = z at *
  have m1 := Int.emod_nonneg z.toInt (b := 3) (by decide)
  have m2 := Int.emod_lt_of_pos z.toInt (b := 3) (by decide)
  refine ⟨⟨(z.toInt % 3).toNat, by omega⟩, ?_⟩
  rw [← Int32.toInt_inj, e2, Int32.toInt_ofNat_of_lt (by show (z.toInt % 3).toNat < _; omega)]
  show _ = (((z.toInt % 3).toNat : Nat) : Int)
  omega
theorem in_p {r s : Int32} (hr : InN 2 r) (hs : InN 3 s) : InN 6 ((r * 3) + s) := by
  obtain ⟨n, rfl⟩ := hr
  obtain ⟨m, rfl⟩ := hs
  have k : ∀ (n : Fin 2) (m : Fin 3), ∃ q : Fin 6, (Int32.ofNat n.val * 3) + Int32.ofNat m.val = Int32.ofNat q.val := by decide
  exact k n m
theorem in_pe {r s r' s' : Int32} (hr : InN 2 r) (hs : InN 3 s) (hr' : InN 2 r') (hs' : InN 3 s') (e : (r * 3) + s = (r' * 3) + s') : r = r' ∧ s = s' := by
  obtain ⟨n, rfl⟩ := hr
  obtain ⟨m, rfl⟩ := hs
  obtain ⟨n', rfl⟩ := hr'
  obtain ⟨m', rfl⟩ := hs'
  have k : ∀ (n : Fin 2) (m : Fin 3) (n' : Fin 2) (m' : Fin 3), (Int32.ofNat n.val * 3) + Int32.ofNat m.val = (Int32.ofNat n'.val * 3) + Int32.ofNat m'.val → Int32.ofNat n.val = Int32.ofNat n'.val ∧ Int32.ofNat m.val = Int32.ofNat m'.val := by decide
  exact k n m n' m' e
theorem in_ok {i : Int32} (h : InN 6 i) : ¬ i < 0 ∧ i.toNatClampNeg < 6 := by
  obtain ⟨n, rfl⟩ := h
  have k : ∀ n : Fin 6, ¬ Int32.ofNat n.val < 0 ∧ (Int32.ofNat n.val).toNatClampNeg < 6 := by decide
  exact k n
theorem in_inj {i j : Int32} (h : InN 6 i) (h' : InN 6 j) (e : i.toNatClampNeg = j.toNatClampNeg) : i = j := by
  obtain ⟨n, rfl⟩ := h
  obtain ⟨m, rfl⟩ := h'
  have k : ∀ n m : Fin 6, (Int32.ofNat n.val).toNatClampNeg = (Int32.ofNat m.val).toNatClampNeg → Int32.ofNat n.val = Int32.ofNat m.val := by decide
  exact k n m e
theorem oat_lt {vs : List Int32} {j v : Int32} (q : OAt vs j v) : j.toNatClampNeg < vs.length := (List.getElem?_eq_some_iff.mp q.2).1
theorem oat_same {vs : List Int32} {j v : Int32} (q : OAt vs j v) (y : Int32) : OAt (vs.set j.toNatClampNeg y) j y := by
  refine ⟨q.1, ?_⟩
  rw [List.getElem?_set, if_pos rfl, if_pos (oat_lt q)]
theorem oat_ne {vs : List Int32} {i j v : Int32} (q : OAt vs j v) (y : Int32) (h : i.toNatClampNeg ≠ j.toNatClampNeg) : OAt (vs.set i.toNatClampNeg y) j v := by
  refine ⟨q.1, ?_⟩
  rw [List.getElem?_set, if_neg h]; exact q.2
theorem oat_other {vs : List Int32} {i j v : Int32} (q : OAt vs j v) (y : Int32) (hi : InN 6 i) (hj : InN 6 j) (h : i ≠ j) : OAt (vs.set i.toNatClampNeg y) j v := oat_ne q y fun e => h (in_inj hi hj e)
theorem oat_z6 {p : Int32} (h : InN 6 p) (v : Int32) : OAt [v, v, v, v, v, v] p v := by
  obtain ⟨⟨n, hn⟩, rfl⟩ := h
  dsimp only
  match n, hn with
  | 0, _ => exact ⟨by decide, rfl⟩
  | 1, _ => exact ⟨by decide, rfl⟩
  | 2, _ => exact ⟨by decide, rfl⟩
  | 3, _ => exact ⟨by decide, rfl⟩
  | 4, _ => exact ⟨by decide, rfl⟩
  | 5, _ => exact ⟨by decide, rfl⟩
theorem oat_cl {b p x0 x1 x2 x3 x4 x5 : Int32} (h : InN 6 p) (h0 : x0 = own_bitp b 0) (h1 : x1 = own_bitp b 1) (h2 : x2 = own_bitp b 2) (h3 : x3 = own_bitp b 3) (h4 : x4 = own_bitp b 4) (h5 : x5 = own_bitp b 5) : OAt [x0, x1, x2, x3, x4, x5] p (own_bitp b p) := by
  subst h0 h1 h2 h3 h4 h5
  obtain ⟨⟨n, hn⟩, rfl⟩ := h
  dsimp only
  match n, hn with
  | 0, _ => exact ⟨by decide, rfl⟩
  | 1, _ => exact ⟨by decide, rfl⟩
  | 2, _ => exact ⟨by decide, rfl⟩
  | 3, _ => exact ⟨by decide, rfl⟩
  | 4, _ => exact ⟨by decide, rfl⟩
  | 5, _ => exact ⟨by decide, rfl⟩
theorem own_bit0 (b : Int32) : own_bitp b 0 = if b &&& 1 = 0 then 0 else 1 := by
  have e : b >>> ((0 : Int32) &&& 31) = b := by
    apply Int32.toInt_inj.mp
    rw [Jvm.Kit.i32_shr b ((0 : Int32) &&& 31) (k := 0) (by decide)]; simp
  unfold own_bitp
  rw [e]
theorem own_b01 (b p : Int32) : own_bitp b p = 0 ∨ own_bitp b p = 1 := by
  unfold own_bitp
  by_cases h : (b >>> (p &&& 31)) &&& 1 = 0
  · exact Or.inl (if_pos h)
  · exact Or.inr (if_neg h)
theorem own_k4 {k : Int32} (h : InN 4 k) : k = 0 ∨ k = 1 ∨ k = 2 ∨ k = 3 := by
  obtain ⟨n, rfl⟩ := h
  have q : ∀ n : Fin 4, Int32.ofNat n.val = 0 ∨ Int32.ofNat n.val = 1 ∨ Int32.ofNat n.val = 2 ∨ Int32.ofNat n.val = 3 := by decide
  exact q n
theorem own_m2 {k : Int32} (h : InN 2 k) (h' : ¬ k = 1) : k = 0 := by
  obtain ⟨n, rfl⟩ := h
  have q : ∀ n : Fin 2, ¬ Int32.ofNat n.val = 1 → Int32.ofNat n.val = 0 := by decide
  exact q n h'
/-! how the first adds go -/
theorem own_nA1 {c : Int32} (h : ¬ c = 0) : 0 < own_cl 1 1 1 c := by unfold own_cl; rw [if_neg (by decide), if_neg h]; decide
theorem own_nB1 {c : Int32} (h : c = 0) : ¬ 0 < own_cl 1 1 1 c := by unfold own_cl; rw [if_neg (by decide), if_pos h]; decide
theorem own_nA2 (c : Int32) : 0 < own_cl 1 2 1 c := by
  unfold own_cl; rw [if_pos (by decide)]
  by_cases h : c = 0
  · rw [if_pos h]; decide
  · rw [if_neg h]; decide
theorem own_L0 (c : Int32) : ¬ own_L 0 c := fun h => h.elim (by decide) fun q => absurd q.2 (by decide)
theorem own_L1 {c : Int32} (h : c = 0) : ¬ own_L 1 c := fun q => q.elim (by decide) fun z => z.1 h
theorem own_L1' {c : Int32} (h : ¬ c = 0) : own_L 1 c := Or.inr ⟨h, by decide⟩
theorem own_L2 (c : Int32) : own_L 2 c := Or.inl (by decide)
theorem own_L3 (c : Int32) : own_L 3 c := Or.inl (by decide)
/-- a cell that is listed counts -/
theorem own_cntL {b c : Int32} (hb : InN 5 b) (h : own_L b c) : 0 < own_cnt b c := by
  obtain ⟨n, rfl⟩ := hb
  unfold own_cnt
  by_cases q : c = 0
  · rw [if_pos q]
    have k : ∀ n : Fin 5, 1 < Int32.ofNat n.val → 0 < own_max 0 (Int32.ofNat n.val - 1) + 0 := by decide
    exact k n (h.elim id fun z => absurd q z.1)
  · rw [if_neg q]
    have k : ∀ n : Fin 5, (1 < Int32.ofNat n.val ∨ 0 < Int32.ofNat n.val) → 0 < own_max 0 (Int32.ofNat n.val - 1) + Int32.ofNat n.val := by decide
    exact k n (h.elim Or.inl fun z => Or.inr z.2)
theorem own_cnt1 {c : Int32} (h : ¬ c = 0) : 0 < own_cnt 1 c := by unfold own_cnt; rw [if_neg h]; decide
theorem in_45 {k : Int32} (h : InN 4 k) : InN 5 k ∧ InN 5 (k + 1) := by
  obtain ⟨n, rfl⟩ := h
  have q : ∀ n : Fin 4, (∃ m : Fin 5, Int32.ofNat n.val = Int32.ofNat m.val) ∧ ∃ m : Fin 5, Int32.ofNat n.val + 1 = Int32.ofNat m.val := by decide
  exact q n
theorem own_up {k c : Int32} (hk : InN 4 k) (h : own_L k c) : own_L (k + 1) c := by
  obtain ⟨n, rfl⟩ := hk
  have q : ∀ n : Fin 4, 0 < Int32.ofNat n.val → 1 < Int32.ofNat n.val + 1 := by decide
  have q2 : ∀ n : Fin 4, 1 < Int32.ofNat n.val → 0 < Int32.ofNat n.val := by decide
  exact Or.inl (q n (h.elim (q2 n) fun z => z.2))
theorem own_nL {k c : Int32} (hk : InN 4 k) : (0 < own_cl 1 (k + 1) 1 c) ↔ own_L (k + 1) c := by
  obtain ⟨n, rfl⟩ := hk
  unfold own_cl own_L
  by_cases h : c = 0
  · have q : ∀ n : Fin 4, (0 < (1 : Int32).toInt64 * (if 0 < Int32.ofNat n.val + 1 - 1 then 1 else 0)) ↔ 1 < Int32.ofNat n.val + 1 := by decide
    constructor
    · intro z; rw [if_pos h, if_pos h] at z; exact Or.inl ((q n).mp z)
    · intro z; rw [if_pos h, if_pos h]; exact (q n).mpr (z.elim id fun y => absurd h y.1)
  · have q : ∀ n : Fin 4, (0 < (1 : Int32).toInt64 * (if 0 < Int32.ofNat n.val + 1 - 1 then 2 else 1)) ∧ 0 < Int32.ofNat n.val + 1 := by decide
    constructor
    · intro _; exact Or.inr ⟨h, (q n).2⟩
    · intro _; rw [if_neg h, if_neg h]; exact (q n).1
theorem own_wL {dr b c : Int32} (hb : InN 5 b) (hd : ¬ dr = 0) (h : own_L b c) : own_w dr b c = 2 := by
  obtain ⟨n, rfl⟩ := hb
  unfold own_w
  rw [if_neg hd]
  by_cases q : Int32.ofNat n.val < 2
  · have k1 : ∀ n : Fin 5, Int32.ofNat n.val < 2 → ¬ 1 < Int32.ofNat n.val := by decide
    have k2 : ∀ n : Fin 5, 0 < Int32.ofNat n.val → ¬ Int32.ofNat n.val < 1 := by decide
    rcases h with h | h
    · exact absurd h (k1 n q)
    · rw [if_pos q, if_neg h.1, if_neg (k2 n h.2)]
  · rw [if_neg q]
theorem own_wN {dr b c : Int32} (hb : InN 5 b) (h : ¬ own_L b c) : own_w dr b c = 1 := by
  obtain ⟨n, rfl⟩ := hb
  unfold own_w
  by_cases hd : dr = 0
  · rw [if_pos hd]
  · rw [if_neg hd]
    have k1 : ∀ n : Fin 5, ¬ Int32.ofNat n.val < 2 → 1 < Int32.ofNat n.val := by decide
    have k2 : ∀ n : Fin 5, ¬ Int32.ofNat n.val < 1 → 0 < Int32.ofNat n.val := by decide
    by_cases q : Int32.ofNat n.val < 2
    · rw [if_pos q]
      by_cases q2 : c = 0
      · rw [if_pos q2]
      · rw [if_neg q2]
        by_cases q3 : Int32.ofNat n.val < 1
        · rw [if_pos q3]
        · exact absurd (Or.inr ⟨q2, k2 n q3⟩) h
    · exact absurd (Or.inl (k1 n q)) h
theorem own_w0 {dr : Int32} (b c : Int32) (h : dr = 0) : own_w dr b c = 1 := if_pos h
theorem own_fin1 {w x o c : Int32} {W : Int64} {t : Int32} (hw : w.toInt64 = W) (hx : x = t) : own_cl w x o c = own_e W t o c := by subst hw; subst hx; rfl
theorem own_bb0 {k ao : Int32} (same : Int32) (h : ao = 0) : own_bef k ao same = k := by unfold own_bef; rw [if_pos h, Int32.add_zero]
theorem own_bb1 {k ao same : Int32} (h : ¬ ao = 0) (h' : same = 0) : own_bef k ao same = k := by unfold own_bef; rw [if_neg h, if_pos h', Int32.add_zero]
theorem own_bb2 {k ao same : Int32} (h : ¬ ao = 0) (h' : ¬ same = 0) : own_bef k ao same = k + 1 := by unfold own_bef; rw [if_neg h, if_neg h']
/-- the places of a list of clashes -/
def own_ent (e : Int32) (M Cl Ca : List Int32) (q : Int32) : Prop := InN 6 e ∧ OAt Ca q e ∧ ∃ x c, OAt M e x ∧ OAt Cl e c ∧ 0 < own_cnt x c
def own_st (i k c cc t : Int32) (Ca : List Int32) : Prop := (cc = 0 ∧ t = 0 ∧ ¬ own_L k c) ∨ (cc = 1 ∧ t = 1 ∧ OAt Ca 0 i ∧ own_L k c)
def own_es (i b c cc : Int32) (M Cl Ca : List Int32) : Prop := (cc = 0 ∧ ¬ own_L b c) ∨ (∃ y0, cc = 1 ∧ own_ent y0 M Cl Ca 0 ∧ ((y0 = i ∧ own_L b c) ∨ (y0 ≠ i ∧ ¬ own_L b c))) ∨ (∃ y1, cc = 2 ∧ own_ent i M Cl Ca 0 ∧ own_ent y1 M Cl Ca 1 ∧ y1 ≠ i ∧ own_L b c)
theorem es_i {i b c : Int32} {M Cl Ca : List Int32} (hi : InN 6 i) (hb : InN 5 b) (hL : own_L b c) (qa : OAt Ca 0 i) (qm : OAt M i b) (qc : OAt Cl i c) : own_es i b c 1 M Cl Ca :=
  Or.inr (Or.inl ⟨i, rfl, ⟨hi, qa, b, c, qm, qc, own_cntL hb hL⟩, Or.inl ⟨rfl, hL⟩⟩)
theorem es_none {i k b c cc t : Int32} {M Cl Ca : List Int32} (e : b = k) (h : own_st i k c cc t Ca) (hi : InN 6 i) (hk : InN 5 k) (qm : OAt M i k) (qc : OAt Cl i c) : own_es i b c cc M Cl Ca := by
  subst e
  rcases h with ⟨rfl, -, hL⟩ | ⟨rfl, -, qa, hL⟩
  · exact Or.inl ⟨rfl, hL⟩
  · exact es_i hi hk hL qa qm qc
theorem es_j0 {i j k b c cj : Int32} {M Cl Ca : List Int32} (e : b = k) (hL : ¬ own_L k c) (hj : InN 6 j) (hne : i ≠ j) (qa : OAt Ca 0 j) (qm : OAt M j 1) (qc : OAt Cl j cj) (hc : ¬ cj = 0) : own_es i b c 1 M Cl Ca := by
  subst e
  exact Or.inr (Or.inl ⟨j, rfl, ⟨hj, qa, 1, cj, qm, qc, own_cnt1 hc⟩, Or.inr ⟨Ne.symm hne, hL⟩⟩)
theorem es_j1 {i j k b c cj : Int32} {M Cl Ca : List Int32} (e : b = k) (hL : own_L k c) (hi : InN 6 i) (hk : InN 5 k) (hj : InN 6 j) (hne : i ≠ j) (qa : OAt Ca 0 i) (qm : OAt M i k) (qc : OAt Cl i c) (qa' : OAt Ca 1 j) (qm' : OAt M j 1) (qc' : OAt Cl j cj) (hc : ¬ cj = 0) : own_es i b c 2 M Cl Ca := by
  subst e
  exact Or.inr (Or.inr ⟨j, rfl, ⟨hi, qa, b, c, qm, qc, own_cntL hk hL⟩, ⟨hj, qa', 1, cj, qm', qc', own_cnt1 hc⟩, Ne.symm hne, hL⟩)
def own_ccok (cc : Int32) : Prop := ¬ cc = 16 ∧ ¬ cc < 0 ∧ cc.toNatClampNeg < 16
theorem es_cc {i b c cc : Int32} {M Cl Ca : List Int32} (h : own_es i b c cc M Cl Ca) : own_ccok cc := by
  rcases h with ⟨rfl, -⟩ | ⟨_, rfl, -⟩ | ⟨_, rfl, -⟩ <;> exact ⟨by decide, by decide, by decide⟩
theorem oat_at0 {Ca : List Int32} (h : Ca.length = 16) (y : Int32) : OAt (Ca.set (0 : Int32).toNatClampNeg y) 0 y := by
  refine ⟨by decide, ?_⟩
  rw [List.getElem?_set, if_pos rfl, if_pos (by rw [h]; decide)]
theorem oat_at1 {Ca : List Int32} (h : Ca.length = 16) (y : Int32) : OAt (Ca.set (1 : Int32).toNatClampNeg y) 1 y := by
  refine ⟨by decide, ?_⟩
  rw [List.getElem?_set, if_pos rfl, if_pos (by rw [h]; decide)]
theorem own_nb {a b : Prop} (h : ¬ (a ∧ b)) : ¬ a ∨ ¬ b := by
  by_cases q : a
  · exact Or.inr fun z => h ⟨q, z⟩
  · exact Or.inl q
theorem own_len16 {Ca : List Int32} {i : Nat} {v : Int32} (h : Ca.length = 16) : (Ca.set i v).length = 16 := by rw [List.length_set, h]

/-- the object and its five arrays -/
def OCC (Z : State) (h : Heap) (ra rm rw rc rl rk : Addr) (M Wt Cl Li Ca : List Int32) (cc : Int32) : Prop := Exa Z h ra "com/example/slotwright/slotwright/solver/Occupancy" ∧ Fld Z h ra "com/example/slotwright/slotwright/solver/Occupancy" "clashing" "[I" (.ref rk) ∧ Fld Z h ra "com/example/slotwright/slotwright/solver/Occupancy" "slots" "I" (.int (3 : Int32)) ∧ Fld Z h ra "com/example/slotwright/slotwright/solver/Occupancy" "meetings" "[I" (.ref rm) ∧ Fld Z h ra "com/example/slotwright/slotwright/solver/Occupancy" "closed" "[Z" (.ref rc) ∧ Fld Z h ra "com/example/slotwright/slotwright/solver/Occupancy" "weights" "[I" (.ref rw) ∧ Fld Z h ra "com/example/slotwright/slotwright/solver/Occupancy" "listed" "[Z" (.ref rl) ∧ Fld Z h ra "com/example/slotwright/slotwright/solver/Occupancy" "clashingCount" "I" (.int cc) ∧ (∃ wd : Int64, Fld Z h ra "com/example/slotwright/slotwright/solver/Occupancy" "weighted" "J" (.long wd)) ∧ OAL Z h rm .int M ∧ OAL Z h rw .int Wt ∧ OAL Z h rc .boolean Cl ∧ OAL Z h rl .boolean Li ∧ OAL Z h rk .int Ca
def OAD (n0 : Nat) (ra rm rw rc rl rk : Addr) : Prop := n0 ≤ ra ∧ n0 ≤ rm ∧ n0 ≤ rw ∧ n0 ≤ rl ∧ n0 ≤ rk ∧ ra ≠ rm ∧ ra ≠ rw ∧ ra ≠ rc ∧ ra ≠ rl ∧ ra ≠ rk ∧ rm ≠ rw ∧ rm ≠ rc ∧ rm ≠ rl ∧ rm ≠ rk ∧ rw ≠ rc ∧ rw ≠ rl ∧ rw ≠ rk ∧ rc ≠ rl ∧ rc ≠ rk ∧ rl ≠ rk
theorem own_pn0 : plainName "com/example/slotwright/slotwright/solver/Occupancy" = true := by first | (simp [plainName, overriddenIn]; done) | decide +kernel
theorem ef_own_mcl (m : MethodId) (x0 : Addr) (x1 : Int32) (x2 : Int32) (x3 : Int32) : entryFrame m #[(.ref x0), (.int x1), (.int x2), (.int x3)] 5 = mkF m 0 #[.val (.ref x0), .val (.int x1), .val (.int x2), .val (.int x3), .unset] [] := by first | (simp [entryFrame, mkF, argsToLocals, Value.category]; done) | rfl
theorem d7_0 : decode prog_60_method_6_code 0 = .ok (.iload_n 1, 1) := by decide +kernel
theorem d7_1 : decode prog_60_method_6_code 1 = .ok (.aload_n 0, 1) := by decide +kernel
theorem d7_2 : decode prog_60_method_6_code 2 = .ok (.getfield 13, 3) := by decide +kernel
theorem d7_5 : decode prog_60_method_6_code 5 = .ok (.imul, 1) := by decide +kernel
theorem d7_6 : decode prog_60_method_6_code 6 = .ok (.iload_n 2, 1) := by decide +kernel
theorem d7_7 : decode prog_60_method_6_code 7 = .ok (.iadd, 1) := by decide +kernel
theorem d7_8 : decode prog_60_method_6_code 8 = .ok (.istore 4, 2) := by decide +kernel
theorem d7_10 : decode prog_60_method_6_code 10 = .ok (.aload_n 0, 1) := by decide +kernel
theorem d7_11 : decode prog_60_method_6_code 11 = .ok (.getfield 34, 3) := by decide +kernel
theorem d7_14 : decode prog_60_method_6_code 14 = .ok (.iload 4, 2) := by decide +kernel
theorem d7_16 : decode prog_60_method_6_code 16 = .ok (.iaload, 1) := by decide +kernel
theorem d7_17 : decode prog_60_method_6_code 17 = .ok (.i2l, 1) := by decide +kernel
theorem d7_18 : decode prog_60_method_6_code 18 = .ok (.aload_n 0, 1) := by decide +kernel
theorem d7_19 : decode prog_60_method_6_code 19 = .ok (.getfield 23, 3) := by decide +kernel
theorem d7_22 : decode prog_60_method_6_code 22 = .ok (.iload 4, 2) := by decide +kernel
theorem d7_24 : decode prog_60_method_6_code 24 = .ok (.iaload, 1) := by decide +kernel
theorem d7_25 : decode prog_60_method_6_code 25 = .ok (.iload_n 3, 1) := by decide +kernel
theorem d7_26 : decode prog_60_method_6_code 26 = .ok (.isub, 1) := by decide +kernel
theorem d7_27 : decode prog_60_method_6_code 27 = .ok (.ifCond .le 7, 3) := by decide +kernel
theorem d7_30 : decode prog_60_method_6_code 30 = .ok (.iconst 1, 1) := by decide +kernel
theorem d7_31 : decode prog_60_method_6_code 31 = .ok (.goto 4, 3) := by decide +kernel
theorem d7_34 : decode prog_60_method_6_code 34 = .ok (.iconst 0, 1) := by decide +kernel
theorem d7_35 : decode prog_60_method_6_code 35 = .ok (.aload_n 0, 1) := by decide +kernel
theorem d7_36 : decode prog_60_method_6_code 36 = .ok (.getfield 26, 3) := by decide +kernel
theorem d7_39 : decode prog_60_method_6_code 39 = .ok (.iload 4, 2) := by decide +kernel
theorem d7_41 : decode prog_60_method_6_code 41 = .ok (.baload, 1) := by decide +kernel
theorem d7_42 : decode prog_60_method_6_code 42 = .ok (.ifCond .eq 7, 3) := by decide +kernel
theorem d7_45 : decode prog_60_method_6_code 45 = .ok (.iconst 1, 1) := by decide +kernel
theorem d7_46 : decode prog_60_method_6_code 46 = .ok (.goto 4, 3) := by decide +kernel
theorem d7_49 : decode prog_60_method_6_code 49 = .ok (.iconst 0, 1) := by decide +kernel
theorem d7_50 : decode prog_60_method_6_code 50 = .ok (.iadd, 1) := by decide +kernel
theorem d7_51 : decode prog_60_method_6_code 51 = .ok (.i2l, 1) := by decide +kernel
theorem d7_52 : decode prog_60_method_6_code 52 = .ok (.lmul, 1) := by decide +kernel
theorem d7_53 : decode prog_60_method_6_code 53 = .ok (.lreturn, 1) := by decide +kernel
set_option maxRecDepth 65536 in
set_option maxHeartbeats 40000000 in
theorem own_mcl (l : Launch) (Z : State) (a0 : Array Value) (hw : ∀ d ∈ tables_1, d.before a0 Z = true) (ws : List Jvm.Cond) (ra rm rw rc rl rk : Addr) (M Wt Cl Li Ca : List Int32) (cc xr xs xo xw xm xc : Int32)  (h0 : Heap) (n0 : Nat) (Z0 : n0 ≤ h0.size) (hD : OAD n0 ra rm rw rc rl rk) (O : OCC Z h0 ra rm rw rc rl rk M Wt Cl Li Ca cc) (qw : OAt Wt ((xr * (3 : Int32)) + xs) xw) (qm : OAt M ((xr * (3 : Int32)) + xs) xm) (qc : OAt Cl ((xr * (3 : Int32)) + xs) xc) :
    MetFree l (⟨"com/example/slotwright/slotwright/solver/Occupancy", "clashes", "(III)J"⟩ : MethodName) (head1 (Jvm.Cond.code (⟨"com/example/slotwright/slotwright/solver/Occupancy", "clashes", "(III)J"⟩ : MethodName) prog_60_method_6_code 5 (some .long) :: ws) ({ frames := 0, cells := 0, slots := 0, locals := 0 } : Room)) (fun a U => a = #[(.ref ra), (.int xr), (.int xs), (.int xo)] ∧ Z.Warmed39 U.vm ∧ U.heap = h0) (fun _ _ _ _ _ => True) (fun _ U o U' => ∃ v L, o = .returned v ∧ (OPure n0 h0 (some (.long (own_cl xw xm xo xc)))) v U'.heap L ∧ FrameEnd U o U' L ({ frames := 0, cells := 0, slots := 0, locals := 0 } : Room).cells ({ frames := 0, cells := 0, slots := 0, locals := 0 } : Room).slots) := by
  refine MetFree.of_bodySF (plainFor_of_name own_pn0) hisR ?_
  intro p e s m args below meth c s₁ Bd hml0 hP hK
  obtain ⟨rfl, hZ, hh⟩ := hP
  have hx := Bd.exec
  have hby := Bd.bytes
  have hret := Bd.returns
  have hlk : meth.locks = false := Bd.notSynchronized
  have hml : c.maxLocals = 5 := hml0
  have hown : s.vm.findClass "com/example/slotwright/slotwright/solver/Occupancy" = some m.cls := findClass_of_methodNamed Bd.named
  have hnm := (name_of_methodNamed Bd.named Bd.method).1
  have X0 : Stand p l e ({ frames := 0, cells := 0, slots := 0, locals := 0 } : Room) s m #[(.ref ra), (.int xr), (.int xs), (.int xo)] below meth c s₁ [] 0 0 := Stand.of_body Bd
  have e0 : s₁.heap = h0 := by rw [← hh, Bd.state]; rfl
  have N0 := Fr.nil n0
  have pre0 : ∀ t, Steps p.tables e below (s₁.setTop (mkF m 0 #[.val (.ref ra), .val (.int xr), .val (.int xs), .val (.int xo), .unset] [])) t → Steps p.tables e below (s₁.setTop (entryFrame m #[(.ref ra), (.int xr), (.int xs), (.int xo)] 5)) t := fun t k => castTop (ef_own_mcl m ra xr xs xo) k
  show OGo p e below s (OPure n0 h0 (some (.long (own_cl xw xm xo xc)))) ({ frames := 0, cells := 0, slots := 0, locals := 0 } : Room).cells ({ frames := 0, cells := 0, slots := 0, locals := 0 } : Room).slots (s₁.setTop (entryFrame m #[(.ref ra), (.int xr), (.int xs), (.int xo)] 5))
  refine OGo.on pre0 ?_
  show OGo p e below s _ _ _ (s₁.setTop (mkF m 0 #[.val (.ref ra), .val (.int xr), .val (.int xs), .val (.int xo), .unset] []))
  obtain ⟨E_o, F_clashing, F_slots, F_meetings, F_closed, F_weights, F_listed, F_clashingCount, ⟨wd, F_weighted⟩, A_m, A_w, A_c, A_l, A_k⟩ := O
  refine OGo.on (fun t k => XS.iloadN X0.here hx rfl (hb hby d7_0) rfl k) ?_
  refine OGo.on (fun t k => XS.aloadN X0.here hx rfl (hb hby d7_1) rfl rfl k) ?_
  show OGo p e below s _ _ _ (s₁.setTop (mkF m 2 #[.val (.ref ra), .val (.int xr), .val (.int xs), .val (.int xo), .unset] [(.ref ra), (.int xr)]))
  obtain ⟨T1, X1, e1, st1⟩ := getF X0 hx hZ hown (host := "") (Or.inl (hw _ (List.mem_of_getElem? (i := 14) rfl))) Via.refl e0 F_slots (g := (mkF m 2 #[.val (.ref ra), .val (.int xr), .val (.int xs), .val (.int xo), .unset] [(.ref ra), (.int xr)])) rfl rfl (hb hby d7_2)
  refine OGo.on st1 ?_
  show OGo p e below s _ _ _ (T1.setTop (mkF m 5 #[.val (.ref ra), .val (.int xr), .val (.int xs), .val (.int xo), .unset] [(.int (3 : Int32)), (.int xr)]))
  refine OGo.on (fun t k => XS.imul X1.here hx rfl (hb hby d7_5) rfl k) ?_
  refine OGo.on (fun t k => XS.iloadN X1.here hx rfl (hb hby d7_6) rfl k) ?_
  refine OGo.on (fun t k => XS.iadd X1.here hx rfl (hb hby d7_7) rfl k) ?_
  refine OGo.on (fun t k => XS.istore X1.here hx rfl (hb hby d7_8) rfl (l' := #[.val (.ref ra), .val (.int xr), .val (.int xs), .val (.int xo), .val (.int ((xr * (3 : Int32)) + xs))]) rfl k) ?_
  show OGo p e below s _ _ _ (T1.setTop (mkF m 10 #[.val (.ref ra), .val (.int xr), .val (.int xs), .val (.int xo), .val (.int ((xr * (3 : Int32)) + xs))] []))
  refine OGo.on (fun t k => XS.aloadN X1.here hx rfl (hb hby d7_10) rfl rfl k) ?_
  show OGo p e below s _ _ _ (T1.setTop (mkF m 11 #[.val (.ref ra), .val (.int xr), .val (.int xs), .val (.int xo), .val (.int ((xr * (3 : Int32)) + xs))] [(.ref ra)]))
  obtain ⟨T2, X2, e2, st2⟩ := getF X1 hx hZ hown (host := "") (Or.inl (hw _ (List.mem_of_getElem? (i := 32) rfl))) Via.refl e1 F_weights (g := (mkF m 11 #[.val (.ref ra), .val (.int xr), .val (.int xs), .val (.int xo), .val (.int ((xr * (3 : Int32)) + xs))] [(.ref ra)])) rfl rfl (hb hby d7_11)
  refine OGo.on st2 ?_
  show OGo p e below s _ _ _ (T2.setTop (mkF m 14 #[.val (.ref ra), .val (.int xr), .val (.int xs), .val (.int xo), .val (.int ((xr * (3 : Int32)) + xs))] [(.ref rw)]))
  refine OGo.on (fun t k => XS.iload X2.here hx rfl (hb hby d7_14) rfl k) ?_
  show OGo p e below s _ _ _ (T2.setTop (mkF m 16 #[.val (.ref ra), .val (.int xr), .val (.int xs), .val (.int xo), .val (.int ((xr * (3 : Int32)) + xs))] [(.int ((xr * (3 : Int32)) + xs)), (.ref rw)]))
  refine OGo.on (fun t k => OAL.ia X2 hx hZ e2 A_w qw (hb hby d7_16) k) ?_
  show OGo p e below s _ _ _ (T2.setTop (mkF m 17 #[.val (.ref ra), .val (.int xr), .val (.int xs), .val (.int xo), .val (.int ((xr * (3 : Int32)) + xs))] [(.int xw)]))
  refine OGo.on (fun t k => XS.i2l X2.here hx rfl (hb hby d7_17) rfl k) ?_
  refine OGo.on (fun t k => XS.aloadN X2.here hx rfl (hb hby d7_18) rfl rfl k) ?_
  show OGo p e below s _ _ _ (T2.setTop (mkF m 19 #[.val (.ref ra), .val (.int xr), .val (.int xs), .val (.int xo), .val (.int ((xr * (3 : Int32)) + xs))] [(.ref ra), (.long (xw.toInt64))]))
  obtain ⟨T3, X3, e3, st3⟩ := getF X2 hx hZ hown (host := "") (Or.inl (hw _ (List.mem_of_getElem? (i := 21) rfl))) Via.refl e2 F_meetings (g := (mkF m 19 #[.val (.ref ra), .val (.int xr), .val (.int xs), .val (.int xo), .val (.int ((xr * (3 : Int32)) + xs))] [(.ref ra), (.long (xw.toInt64))])) rfl rfl (hb hby d7_19)
  refine OGo.on st3 ?_
  show OGo p e below s _ _ _ (T3.setTop (mkF m 22 #[.val (.ref ra), .val (.int xr), .val (.int xs), .val (.int xo), .val (.int ((xr * (3 : Int32)) + xs))] [(.ref rm), (.long (xw.toInt64))]))
  refine OGo.on (fun t k => XS.iload X3.here hx rfl (hb hby d7_22) rfl k) ?_
  show OGo p e below s _ _ _ (T3.setTop (mkF m 24 #[.val (.ref ra), .val (.int xr), .val (.int xs), .val (.int xo), .val (.int ((xr * (3 : Int32)) + xs))] [(.int ((xr * (3 : Int32)) + xs)), (.ref rm), (.long (xw.toInt64))]))
  refine OGo.on (fun t k => OAL.ia X3 hx hZ e3 A_m qm (hb hby d7_24) k) ?_
  show OGo p e below s _ _ _ (T3.setTop (mkF m 25 #[.val (.ref ra), .val (.int xr), .val (.int xs), .val (.int xo), .val (.int ((xr * (3 : Int32)) + xs))] [(.int xm), (.long (xw.toInt64))]))
  refine OGo.on (fun t k => XS.iloadN X3.here hx rfl (hb hby d7_25) rfl k) ?_
  refine OGo.on (fun t k => XS.isub X3.here hx rfl (hb hby d7_26) rfl k) ?_
  show OGo p e below s _ _ _ (T3.setTop (mkF m 27 #[.val (.ref ra), .val (.int xr), .val (.int xs), .val (.int xo), .val (.int ((xr * (3 : Int32)) + xs))] [(.int (xm - xo)), (.long (xw.toInt64))]))
  by_cases hc4 : (0 : Int32) < (xm - xo)
  · refine OGo.on (fun t k => XS.ifNo X3.here hx rfl (hb hby d7_27) rfl ((if0 _ _).trans (tlt hc4).2.2.2) k) ?_
    show OGo p e below s _ _ _ (T3.setTop (mkF m 30 #[.val (.ref ra), .val (.int xr), .val (.int xs), .val (.int xo), .val (.int ((xr * (3 : Int32)) + xs))] [(.long (xw.toInt64))]))
    refine OGo.on (fun t k => XS.iconst X3.here hx rfl (hb hby d7_30) k) ?_
    refine OGo.on (fun t k => XS.goto X3.here hx rfl (pc0 := 31) (pc' := 35) rfl (hb hby d7_31) (by decide) (by decide) k) ?_
    refine OGo.on (fun t k => XS.aloadN X3.here hx rfl (hb hby d7_35) rfl rfl k) ?_
    show OGo p e below s _ _ _ (T3.setTop (mkF m 36 #[.val (.ref ra), .val (.int xr), .val (.int xs), .val (.int xo), .val (.int ((xr * (3 : Int32)) + xs))] [(.ref ra), (.int (1 : Int32)), (.long (xw.toInt64))]))
    obtain ⟨T5, X5, e5, st5⟩ := getF X3 hx hZ hown (host := "") (Or.inl (hw _ (List.mem_of_getElem? (i := 23) rfl))) Via.refl e3 F_closed (g := (mkF m 36 #[.val (.ref ra), .val (.int xr), .val (.int xs), .val (.int xo), .val (.int ((xr * (3 : Int32)) + xs))] [(.ref ra), (.int (1 : Int32)), (.long (xw.toInt64))])) rfl rfl (hb hby d7_36)
    refine OGo.on st5 ?_
    show OGo p e below s _ _ _ (T5.setTop (mkF m 39 #[.val (.ref ra), .val (.int xr), .val (.int xs), .val (.int xo), .val (.int ((xr * (3 : Int32)) + xs))] [(.ref rc), (.int (1 : Int32)), (.long (xw.toInt64))]))
    refine OGo.on (fun t k => XS.iload X5.here hx rfl (hb hby d7_39) rfl k) ?_
    show OGo p e below s _ _ _ (T5.setTop (mkF m 41 #[.val (.ref ra), .val (.int xr), .val (.int xs), .val (.int xo), .val (.int ((xr * (3 : Int32)) + xs))] [(.int ((xr * (3 : Int32)) + xs)), (.ref rc), (.int (1 : Int32)), (.long (xw.toInt64))]))
    refine OGo.on (fun t k => OAL.baZ X5 hx hZ e5 A_c qc (hb hby d7_41) k) ?_
    show OGo p e below s _ _ _ (T5.setTop (mkF m 42 #[.val (.ref ra), .val (.int xr), .val (.int xs), .val (.int xo), .val (.int ((xr * (3 : Int32)) + xs))] [(.int xc), (.int (1 : Int32)), (.long (xw.toInt64))]))
    by_cases hc6 : xc = (0 : Int32)
    · refine OGo.on (fun t k => XS.ifYes X5.here hx rfl (pc0 := 42) (pc' := 49) rfl (hb hby d7_42) rfl ((if0 _ _).trans (teq hc6).1) (by decide) (by decide) k) ?_
      show OGo p e below s _ _ _ (T5.setTop (mkF m 49 #[.val (.ref ra), .val (.int xr), .val (.int xs), .val (.int xo), .val (.int ((xr * (3 : Int32)) + xs))] [(.int (1 : Int32)), (.long (xw.toInt64))]))
      refine OGo.on (fun t k => XS.iconst X5.here hx rfl (hb hby d7_49) k) ?_
      refine OGo.on (fun t k => XS.iadd X5.here hx rfl (hb hby d7_50) rfl k) ?_
      refine OGo.on (fun t k => XS.i2l X5.here hx rfl (hb hby d7_51) rfl k) ?_
      refine OGo.on (fun t k => XS.lmul X5.here hx rfl (hb hby d7_52) rfl k) ?_
      show OGo p e below s _ _ _ (T5.setTop (mkF m 53 #[.val (.ref ra), .val (.int xr), .val (.int xs), .val (.int xo), .val (.int ((xr * (3 : Int32)) + xs))] [(.long ((xw.toInt64) * (1 : Int64)))]))
      exact OGo.retJ X5 hx hret hlk (hb hby d7_53) (opJ (by unfold own_cl; rw [if_pos hc4, if_pos hc6]) N0 e5) (by decide) (by decide)
    · refine OGo.on (fun t k => XS.ifNo X5.here hx rfl (hb hby d7_42) rfl ((if0 _ _).trans (feq hc6).1) k) ?_
      show OGo p e below s _ _ _ (T5.setTop (mkF m 45 #[.val (.ref ra), .val (.int xr), .val (.int xs), .val (.int xo), .val (.int ((xr * (3 : Int32)) + xs))] [(.int (1 : Int32)), (.long (xw.toInt64))]))
      refine OGo.on (fun t k => XS.iconst X5.here hx rfl (hb hby d7_45) k) ?_
      refine OGo.on (fun t k => XS.goto X5.here hx rfl (pc0 := 46) (pc' := 50) rfl (hb hby d7_46) (by decide) (by decide) k) ?_
      refine OGo.on (fun t k => XS.iadd X5.here hx rfl (hb hby d7_50) rfl k) ?_
      refine OGo.on (fun t k => XS.i2l X5.here hx rfl (hb hby d7_51) rfl k) ?_
      show OGo p e below s _ _ _ (T5.setTop (mkF m 52 #[.val (.ref ra), .val (.int xr), .val (.int xs), .val (.int xo), .val (.int ((xr * (3 : Int32)) + xs))] [(.long (2 : Int64)), (.long (xw.toInt64))]))
      refine OGo.on (fun t k => XS.lmul X5.here hx rfl (hb hby d7_52) rfl k) ?_
      show OGo p e below s _ _ _ (T5.setTop (mkF m 53 #[.val (.ref ra), .val (.int xr), .val (.int xs), .val (.int xo), .val (.int ((xr * (3 : Int32)) + xs))] [(.long ((xw.toInt64) * (2 : Int64)))]))
      exact OGo.retJ X5 hx hret hlk (hb hby d7_53) (opJ (by unfold own_cl; rw [if_pos hc4, if_neg hc6]) N0 e5) (by decide) (by decide)
  · refine OGo.on (fun t k => XS.ifYes X3.here hx rfl (pc0 := 27) (pc' := 34) rfl (hb hby d7_27) rfl ((if0 _ _).trans (flt hc4).2.2.2) (by decide) (by decide) k) ?_
    show OGo p e below s _ _ _ (T3.setTop (mkF m 34 #[.val (.ref ra), .val (.int xr), .val (.int xs), .val (.int xo), .val (.int ((xr * (3 : Int32)) + xs))] [(.long (xw.toInt64))]))
    refine OGo.on (fun t k => XS.iconst X3.here hx rfl (hb hby d7_34) k) ?_
    refine OGo.on (fun t k => XS.aloadN X3.here hx rfl (hb hby d7_35) rfl rfl k) ?_
    show OGo p e below s _ _ _ (T3.setTop (mkF m 36 #[.val (.ref ra), .val (.int xr), .val (.int xs), .val (.int xo), .val (.int ((xr * (3 : Int32)) + xs))] [(.ref ra), (.int (0 : Int32)), (.long (xw.toInt64))]))
    obtain ⟨T7, X7, e7, st7⟩ := getF X3 hx hZ hown (host := "") (Or.inl (hw _ (List.mem_of_getElem? (i := 23) rfl))) Via.refl e3 F_closed (g := (mkF m 36 #[.val (.ref ra), .val (.int xr), .val (.int xs), .val (.int xo), .val (.int ((xr * (3 : Int32)) + xs))] [(.ref ra), (.int (0 : Int32)), (.long (xw.toInt64))])) rfl rfl (hb hby d7_36)
    refine OGo.on st7 ?_
    show OGo p e below s _ _ _ (T7.setTop (mkF m 39 #[.val (.ref ra), .val (.int xr), .val (.int xs), .val (.int xo), .val (.int ((xr * (3 : Int32)) + xs))] [(.ref rc), (.int (0 : Int32)), (.long (xw.toInt64))]))
    refine OGo.on (fun t k => XS.iload X7.here hx rfl (hb hby d7_39) rfl k) ?_
    show OGo p e below s _ _ _ (T7.setTop (mkF m 41 #[.val (.ref ra), .val (.int xr), .val (.int xs), .val (.int xo), .val (.int ((xr * (3 : Int32)) + xs))] [(.int ((xr * (3 : Int32)) + xs)), (.ref rc), (.int (0 : Int32)), (.long (xw.toInt64))]))
    refine OGo.on (fun t k => OAL.baZ X7 hx hZ e7 A_c qc (hb hby d7_41) k) ?_
    show OGo p e below s _ _ _ (T7.setTop (mkF m 42 #[.val (.ref ra), .val (.int xr), .val (.int xs), .val (.int xo), .val (.int ((xr * (3 : Int32)) + xs))] [(.int xc), (.int (0 : Int32)), (.long (xw.toInt64))]))
    by_cases hc8 : xc = (0 : Int32)
    · refine OGo.on (fun t k => XS.ifYes X7.here hx rfl (pc0 := 42) (pc' := 49) rfl (hb hby d7_42) rfl ((if0 _ _).trans (teq hc8).1) (by decide) (by decide) k) ?_
      show OGo p e below s _ _ _ (T7.setTop (mkF m 49 #[.val (.ref ra), .val (.int xr), .val (.int xs), .val (.int xo), .val (.int ((xr * (3 : Int32)) + xs))] [(.int (0 : Int32)), (.long (xw.toInt64))]))
      refine OGo.on (fun t k => XS.iconst X7.here hx rfl (hb hby d7_49) k) ?_
      refine OGo.on (fun t k => XS.iadd X7.here hx rfl (hb hby d7_50) rfl k) ?_
      refine OGo.on (fun t k => XS.i2l X7.here hx rfl (hb hby d7_51) rfl k) ?_
      refine OGo.on (fun t k => XS.lmul X7.here hx rfl (hb hby d7_52) rfl k) ?_
      show OGo p e below s _ _ _ (T7.setTop (mkF m 53 #[.val (.ref ra), .val (.int xr), .val (.int xs), .val (.int xo), .val (.int ((xr * (3 : Int32)) + xs))] [(.long ((xw.toInt64) * (0 : Int64)))]))
      exact OGo.retJ X7 hx hret hlk (hb hby d7_53) (opJ (by unfold own_cl; rw [if_neg hc4, if_pos hc8]) N0 e7) (by decide) (by decide)
    · refine OGo.on (fun t k => XS.ifNo X7.here hx rfl (hb hby d7_42) rfl ((if0 _ _).trans (feq hc8).1) k) ?_
      show OGo p e below s _ _ _ (T7.setTop (mkF m 45 #[.val (.ref ra), .val (.int xr), .val (.int xs), .val (.int xo), .val (.int ((xr * (3 : Int32)) + xs))] [(.int (0 : Int32)), (.long (xw.toInt64))]))
      refine OGo.on (fun t k => XS.iconst X7.here hx rfl (hb hby d7_45) k) ?_
      refine OGo.on (fun t k => XS.goto X7.here hx rfl (pc0 := 46) (pc' := 50) rfl (hb hby d7_46) (by decide) (by decide) k) ?_
      refine OGo.on (fun t k => XS.iadd X7.here hx rfl (hb hby d7_50) rfl k) ?_
      refine OGo.on (fun t k => XS.i2l X7.here hx rfl (hb hby d7_51) rfl k) ?_
      show OGo p e below s _ _ _ (T7.setTop (mkF m 52 #[.val (.ref ra), .val (.int xr), .val (.int xs), .val (.int xo), .val (.int ((xr * (3 : Int32)) + xs))] [(.long (1 : Int64)), (.long (xw.toInt64))]))
      refine OGo.on (fun t k => XS.lmul X7.here hx rfl (hb hby d7_52) rfl k) ?_
      show OGo p e below s _ _ _ (T7.setTop (mkF m 53 #[.val (.ref ra), .val (.int xr), .val (.int xs), .val (.int xo), .val (.int ((xr * (3 : Int32)) + xs))] [(.long ((xw.toInt64) * (1 : Int64)))]))
      exact OGo.retJ X7 hx hret hlk (hb hby d7_53) (opJ (by unfold own_cl; rw [if_neg hc4, if_neg hc8]) N0 e7) (by decide) (by decide)
theorem own_dup_x2 {p : Program} {l : Launch} {e : Env} {R : Room} {s : State} {m : MethodId} {args : Array Value} {below : List Frame} {meth : Method} {c : Code} {T : State} {locs : List Loc} {cells slots : Nat} (X : Stand p l e R s m args below meth c T locs cells slots) (hx : p.tables.exec = Jvm.exec) {pc : Nat} {Ls : Array Slot} {x y : Int32} {a : Addr} {rest : List Value} (hd : decode c.code pc = .ok (.dup_x2, 1)) {t : State}
    (k : Steps p.tables e below (T.setTop (mkF m (pc + 1) Ls (.int x :: .int y :: .ref a :: .int x :: rest))) t) : Steps p.tables e below (T.setTop (mkF m pc Ls (.int x :: .int y :: .ref a :: rest))) t := by
  show Steps p.tables e below (T.setTop { method := m, pc := pc, locals := Ls, stack := _, locked := none }) _
  jvm_step X.here [X.here.top, hx, hd, Value.category]
  exact k
def Q_own_addA (Z : State) (ra rm rw rc rl rk : Addr) (M Wt Cl Li Ca : List Int32) (cc xr xs xw xm xc xt : Int32)  (h0 : Heap) (n0 : Nat) (v : Option Value) (h : Heap) (L : List Loc) : Prop := (∃ z, v = some (.int z)) ∧ Fr n0 L ∧ n0 ≤ h.size ∧ OCC Z h ra rm rw rc rl rk (M.set ((xr * (3 : Int32)) + xs).toNatClampNeg (xm + 1)) Wt Cl (Li.set ((xr * (3 : Int32)) + xs).toNatClampNeg 1) (Ca.set cc.toNatClampNeg ((xr * (3 : Int32)) + xs)) (cc + 1)
theorem own_pd0 : parseMethodDescriptor "(III)J" = some ⟨[.int, .int, .int], some .long⟩ := by decide +kernel
theorem ef_own_addA (m : MethodId) (x0 : Addr) (x1 : Int32) (x2 : Int32) : entryFrame m #[(.ref x0), (.int x1), (.int x2)] 7 = mkF m 0 #[.val (.ref x0), .val (.int x1), .val (.int x2), .unset, .unset, .unset, .unset] [] := by first | (simp [entryFrame, mkF, argsToLocals, Value.category]; done) | rfl
theorem d6_0 : decode prog_60_method_4_code 0 = .ok (.iload_n 1, 1) := by decide +kernel
theorem d6_1 : decode prog_60_method_4_code 1 = .ok (.aload_n 0, 1) := by decide +kernel
theorem d6_2 : decode prog_60_method_4_code 2 = .ok (.getfield 13, 3) := by decide +kernel
theorem d6_5 : decode prog_60_method_4_code 5 = .ok (.imul, 1) := by decide +kernel
theorem d6_6 : decode prog_60_method_4_code 6 = .ok (.iload_n 2, 1) := by decide +kernel
theorem d6_7 : decode prog_60_method_4_code 7 = .ok (.iadd, 1) := by decide +kernel
theorem d6_8 : decode prog_60_method_4_code 8 = .ok (.istore_n 3, 1) := by decide +kernel
theorem d6_9 : decode prog_60_method_4_code 9 = .ok (.aload_n 0, 1) := by decide +kernel
theorem d6_10 : decode prog_60_method_4_code 10 = .ok (.getfield 23, 3) := by decide +kernel
theorem d6_13 : decode prog_60_method_4_code 13 = .ok (.iload_n 3, 1) := by decide +kernel
theorem d6_14 : decode prog_60_method_4_code 14 = .ok (.dup2, 1) := by decide +kernel
theorem d6_15 : decode prog_60_method_4_code 15 = .ok (.iaload, 1) := by decide +kernel
theorem d6_16 : decode prog_60_method_4_code 16 = .ok (.dup_x2, 1) := by decide +kernel
theorem d6_17 : decode prog_60_method_4_code 17 = .ok (.iconst 1, 1) := by decide +kernel
theorem d6_18 : decode prog_60_method_4_code 18 = .ok (.iadd, 1) := by decide +kernel
theorem d6_19 : decode prog_60_method_4_code 19 = .ok (.iastore, 1) := by decide +kernel
theorem d6_20 : decode prog_60_method_4_code 20 = .ok (.ifCond .le 7, 3) := by decide +kernel
theorem d6_23 : decode prog_60_method_4_code 23 = .ok (.iconst 1, 1) := by decide +kernel
theorem d6_24 : decode prog_60_method_4_code 24 = .ok (.goto 4, 3) := by decide +kernel
theorem d6_27 : decode prog_60_method_4_code 27 = .ok (.iconst 0, 1) := by decide +kernel
theorem d6_28 : decode prog_60_method_4_code 28 = .ok (.istore 4, 2) := by decide +kernel
theorem d6_30 : decode prog_60_method_4_code 30 = .ok (.aload_n 0, 1) := by decide +kernel
theorem d6_31 : decode prog_60_method_4_code 31 = .ok (.iload_n 1, 1) := by decide +kernel
theorem d6_32 : decode prog_60_method_4_code 32 = .ok (.iload_n 2, 1) := by decide +kernel
theorem d6_33 : decode prog_60_method_4_code 33 = .ok (.iconst 1, 1) := by decide +kernel
theorem d6_34 : decode prog_60_method_4_code 34 = .ok (.invokevirtual 43, 3) := by decide +kernel
theorem d6_37 : decode prog_60_method_4_code 37 = .ok (.lstore 5, 2) := by decide +kernel
theorem d6_39 : decode prog_60_method_4_code 39 = .ok (.aload_n 0, 1) := by decide +kernel
theorem d6_40 : decode prog_60_method_4_code 40 = .ok (.dup, 1) := by decide +kernel
theorem d6_41 : decode prog_60_method_4_code 41 = .ok (.getfield 47, 3) := by decide +kernel
theorem d6_44 : decode prog_60_method_4_code 44 = .ok (.lload 5, 2) := by decide +kernel
theorem d6_46 : decode prog_60_method_4_code 46 = .ok (.ladd, 1) := by decide +kernel
theorem d6_47 : decode prog_60_method_4_code 47 = .ok (.putfield 47, 3) := by decide +kernel
theorem d6_50 : decode prog_60_method_4_code 50 = .ok (.lload 5, 2) := by decide +kernel
theorem d6_52 : decode prog_60_method_4_code 52 = .ok (.lconst 0, 1) := by decide +kernel
theorem d6_53 : decode prog_60_method_4_code 53 = .ok (.lcmp, 1) := by decide +kernel
theorem d6_54 : decode prog_60_method_4_code 54 = .ok (.ifCond .le 66, 3) := by decide +kernel
theorem d6_57 : decode prog_60_method_4_code 57 = .ok (.aload_n 0, 1) := by decide +kernel
theorem d6_58 : decode prog_60_method_4_code 58 = .ok (.getfield 37, 3) := by decide +kernel
theorem d6_61 : decode prog_60_method_4_code 61 = .ok (.iload_n 3, 1) := by decide +kernel
theorem d6_62 : decode prog_60_method_4_code 62 = .ok (.baload, 1) := by decide +kernel
theorem d6_63 : decode prog_60_method_4_code 63 = .ok (.ifCond .ne 57, 3) := by decide +kernel
theorem d6_66 : decode prog_60_method_4_code 66 = .ok (.aload_n 0, 1) := by decide +kernel
theorem d6_67 : decode prog_60_method_4_code 67 = .ok (.getfield 51, 3) := by decide +kernel
theorem d6_70 : decode prog_60_method_4_code 70 = .ok (.aload_n 0, 1) := by decide +kernel
theorem d6_71 : decode prog_60_method_4_code 71 = .ok (.getfield 7, 3) := by decide +kernel
theorem d6_74 : decode prog_60_method_4_code 74 = .ok (.arraylength, 1) := by decide +kernel
theorem d6_75 : decode prog_60_method_4_code 75 = .ok (.if_icmp .ne 21, 3) := by decide +kernel
theorem d6_96 : decode prog_60_method_4_code 96 = .ok (.aload_n 0, 1) := by decide +kernel
theorem d6_97 : decode prog_60_method_4_code 97 = .ok (.getfield 7, 3) := by decide +kernel
theorem d6_100 : decode prog_60_method_4_code 100 = .ok (.aload_n 0, 1) := by decide +kernel
theorem d6_101 : decode prog_60_method_4_code 101 = .ok (.dup, 1) := by decide +kernel
theorem d6_102 : decode prog_60_method_4_code 102 = .ok (.getfield 51, 3) := by decide +kernel
theorem d6_105 : decode prog_60_method_4_code 105 = .ok (.dup_x1, 1) := by decide +kernel
theorem d6_106 : decode prog_60_method_4_code 106 = .ok (.iconst 1, 1) := by decide +kernel
theorem d6_107 : decode prog_60_method_4_code 107 = .ok (.iadd, 1) := by decide +kernel
theorem d6_108 : decode prog_60_method_4_code 108 = .ok (.putfield 51, 3) := by decide +kernel
theorem d6_111 : decode prog_60_method_4_code 111 = .ok (.iload_n 3, 1) := by decide +kernel
theorem d6_112 : decode prog_60_method_4_code 112 = .ok (.iastore, 1) := by decide +kernel
theorem d6_113 : decode prog_60_method_4_code 113 = .ok (.aload_n 0, 1) := by decide +kernel
theorem d6_114 : decode prog_60_method_4_code 114 = .ok (.getfield 37, 3) := by decide +kernel
theorem d6_117 : decode prog_60_method_4_code 117 = .ok (.iload_n 3, 1) := by decide +kernel
theorem d6_118 : decode prog_60_method_4_code 118 = .ok (.iconst 1, 1) := by decide +kernel
theorem d6_119 : decode prog_60_method_4_code 119 = .ok (.bastore, 1) := by decide +kernel
theorem d6_120 : decode prog_60_method_4_code 120 = .ok (.iload 4, 2) := by decide +kernel
theorem d6_122 : decode prog_60_method_4_code 122 = .ok (.ireturn, 1) := by decide +kernel
set_option maxRecDepth 65536 in
set_option maxHeartbeats 40000000 in
theorem own_addA (l : Launch) (Z : State) (a0 : Array Value) (hw : ∀ d ∈ tables_1, d.before a0 Z = true) (ws : List Jvm.Cond) (ra rm rw rc rl rk : Addr) (M Wt Cl Li Ca : List Int32) (cc xr xs xw xm xc xt : Int32)  (h0 : Heap) (n0 : Nat) (Z0 : n0 ≤ h0.size) (hD : OAD n0 ra rm rw rc rl rk) (O : OCC Z h0 ra rm rw rc rl rk M Wt Cl Li Ca cc) (qw : OAt Wt ((xr * (3 : Int32)) + xs) xw) (qm : OAt M ((xr * (3 : Int32)) + xs) xm) (qc : OAt Cl ((xr * (3 : Int32)) + xs) xc) (qt : OAt Li ((xr * (3 : Int32)) + xs) xt) (hn : 0 < (own_cl xw (xm + 1) 1 xc)) (ht : xt = 0) (hca : Ca.length = 16) (hcc : ¬ cc = 16) (hc0 : ¬ cc < 0) (hc1 : cc.toNatClampNeg < 16)  :
    MetFree l (⟨"com/example/slotwright/slotwright/solver/Occupancy", "add", "(II)I"⟩ : MethodName) (head1 (Jvm.Cond.code (⟨"com/example/slotwright/slotwright/solver/Occupancy", "add", "(II)I"⟩ : MethodName) prog_60_method_4_code 7 (some .int) :: ws) ({ frames := 1, cells := 0, slots := 0, locals := 16 } : Room)) (fun a U => a = #[(.ref ra), (.int xr), (.int xs)] ∧ Z.Warmed39 U.vm ∧ U.heap = h0) (fun _ _ _ _ _ => True) (fun _ U o U' => ∃ v L, o = .returned v ∧ (Q_own_addA Z ra rm rw rc rl rk M Wt Cl Li Ca cc xr xs xw xm xc xt h0 n0) v U'.heap L ∧ FrameEnd U o U' L ({ frames := 1, cells := 0, slots := 0, locals := 16 } : Room).cells ({ frames := 1, cells := 0, slots := 0, locals := 16 } : Room).slots) := by
  refine MetFree.of_bodySF (plainFor_of_name own_pn0) hisR ?_
  intro p e s m args below meth c s₁ Bd hml0 hP hK
  obtain ⟨rfl, hZ, hh⟩ := hP
  have hx := Bd.exec
  have hby := Bd.bytes
  have hret := Bd.returns
  have hlk : meth.locks = false := Bd.notSynchronized
  have hml : c.maxLocals = 7 := hml0
  have hown : s.vm.findClass "com/example/slotwright/slotwright/solver/Occupancy" = some m.cls := findClass_of_methodNamed Bd.named
  have hnm := (name_of_methodNamed Bd.named Bd.method).1
  have X0 : Stand p l e ({ frames := 1, cells := 0, slots := 0, locals := 16 } : Room) s m #[(.ref ra), (.int xr), (.int xs)] below meth c s₁ [] 0 0 := Stand.of_body Bd
  have e0 : s₁.heap = h0 := by rw [← hh, Bd.state]; rfl
  have N0 := Fr.nil n0
  have pre0 : ∀ t, Steps p.tables e below (s₁.setTop (mkF m 0 #[.val (.ref ra), .val (.int xr), .val (.int xs), .unset, .unset, .unset, .unset] [])) t → Steps p.tables e below (s₁.setTop (entryFrame m #[(.ref ra), (.int xr), (.int xs)] 7)) t := fun t k => castTop (ef_own_addA m ra xr xs) k
  show OGo p e below s (Q_own_addA Z ra rm rw rc rl rk M Wt Cl Li Ca cc xr xs xw xm xc xt h0 n0) ({ frames := 1, cells := 0, slots := 0, locals := 16 } : Room).cells ({ frames := 1, cells := 0, slots := 0, locals := 16 } : Room).slots (s₁.setTop (entryFrame m #[(.ref ra), (.int xr), (.int xs)] 7))
  refine OGo.on pre0 ?_
  show OGo p e below s _ _ _ (s₁.setTop (mkF m 0 #[.val (.ref ra), .val (.int xr), .val (.int xs), .unset, .unset, .unset, .unset] []))
  obtain ⟨E_o, F_clashing, F_slots, F_meetings, F_closed, F_weights, F_listed, F_clashingCount, ⟨wd, F_weighted⟩, A_m, A_w, A_c, A_l, A_k⟩ := O
  refine OGo.on (fun t k => XS.iloadN X0.here hx rfl (hb hby d6_0) rfl k) ?_
  refine OGo.on (fun t k => XS.aloadN X0.here hx rfl (hb hby d6_1) rfl rfl k) ?_
  show OGo p e below s _ _ _ (s₁.setTop (mkF m 2 #[.val (.ref ra), .val (.int xr), .val (.int xs), .unset, .unset, .unset, .unset] [(.ref ra), (.int xr)]))
  obtain ⟨T9, X9, e9, st9⟩ := getF X0 hx hZ hown (host := "") (Or.inl (hw _ (List.mem_of_getElem? (i := 14) rfl))) Via.refl e0 F_slots (g := (mkF m 2 #[.val (.ref ra), .val (.int xr), .val (.int xs), .unset, .unset, .unset, .unset] [(.ref ra), (.int xr)])) rfl rfl (hb hby d6_2)
  refine OGo.on st9 ?_
  show OGo p e below s _ _ _ (T9.setTop (mkF m 5 #[.val (.ref ra), .val (.int xr), .val (.int xs), .unset, .unset, .unset, .unset] [(.int (3 : Int32)), (.int xr)]))
  refine OGo.on (fun t k => XS.imul X9.here hx rfl (hb hby d6_5) rfl k) ?_
  refine OGo.on (fun t k => XS.iloadN X9.here hx rfl (hb hby d6_6) rfl k) ?_
  refine OGo.on (fun t k => XS.iadd X9.here hx rfl (hb hby d6_7) rfl k) ?_
  refine OGo.on (fun t k => XS.istoreN X9.here hx rfl (hb hby d6_8) rfl (l' := #[.val (.ref ra), .val (.int xr), .val (.int xs), .val (.int ((xr * (3 : Int32)) + xs)), .unset, .unset, .unset]) rfl k) ?_
  show OGo p e below s _ _ _ (T9.setTop (mkF m 9 #[.val (.ref ra), .val (.int xr), .val (.int xs), .val (.int ((xr * (3 : Int32)) + xs)), .unset, .unset, .unset] []))
  refine OGo.on (fun t k => XS.aloadN X9.here hx rfl (hb hby d6_9) rfl rfl k) ?_
  show OGo p e below s _ _ _ (T9.setTop (mkF m 10 #[.val (.ref ra), .val (.int xr), .val (.int xs), .val (.int ((xr * (3 : Int32)) + xs)), .unset, .unset, .unset] [(.ref ra)]))
  obtain ⟨T10, X10, e10, st10⟩ := getF X9 hx hZ hown (host := "") (Or.inl (hw _ (List.mem_of_getElem? (i := 21) rfl))) Via.refl e9 F_meetings (g := (mkF m 10 #[.val (.ref ra), .val (.int xr), .val (.int xs), .val (.int ((xr * (3 : Int32)) + xs)), .unset, .unset, .unset] [(.ref ra)])) rfl rfl (hb hby d6_10)
  refine OGo.on st10 ?_
  show OGo p e below s _ _ _ (T10.setTop (mkF m 13 #[.val (.ref ra), .val (.int xr), .val (.int xs), .val (.int ((xr * (3 : Int32)) + xs)), .unset, .unset, .unset] [(.ref rm)]))
  refine OGo.on (fun t k => XS.iloadN X10.here hx rfl (hb hby d6_13) rfl k) ?_
  show OGo p e below s _ _ _ (T10.setTop (mkF m 14 #[.val (.ref ra), .val (.int xr), .val (.int xs), .val (.int ((xr * (3 : Int32)) + xs)), .unset, .unset, .unset] [(.int ((xr * (3 : Int32)) + xs)), (.ref rm)]))
  refine OGo.on (fun t k => XT.dup2 X10.here hx rfl (hb hby d6_14) rfl rfl rfl k) ?_
  show OGo p e below s _ _ _ (T10.setTop (mkF m 15 #[.val (.ref ra), .val (.int xr), .val (.int xs), .val (.int ((xr * (3 : Int32)) + xs)), .unset, .unset, .unset] [(.int ((xr * (3 : Int32)) + xs)), (.ref rm), (.int ((xr * (3 : Int32)) + xs)), (.ref rm)]))
  refine OGo.on (fun t k => OAL.ia X10 hx hZ e10 A_m qm (hb hby d6_15) k) ?_
  show OGo p e below s _ _ _ (T10.setTop (mkF m 16 #[.val (.ref ra), .val (.int xr), .val (.int xs), .val (.int ((xr * (3 : Int32)) + xs)), .unset, .unset, .unset] [(.int xm), (.int ((xr * (3 : Int32)) + xs)), (.ref rm)]))
  refine OGo.on (fun t k => own_dup_x2 X10 hx (hb hby d6_16) k) ?_
  show OGo p e below s _ _ _ (T10.setTop (mkF m 17 #[.val (.ref ra), .val (.int xr), .val (.int xs), .val (.int ((xr * (3 : Int32)) + xs)), .unset, .unset, .unset] [(.int xm), (.int ((xr * (3 : Int32)) + xs)), (.ref rm), (.int xm)]))
  refine OGo.on (fun t k => XS.iconst X10.here hx rfl (hb hby d6_17) k) ?_
  refine OGo.on (fun t k => XS.iadd X10.here hx rfl (hb hby d6_18) rfl k) ?_
  show OGo p e below s _ _ _ (T10.setTop (mkF m 19 #[.val (.ref ra), .val (.int xr), .val (.int xs), .val (.int ((xr * (3 : Int32)) + xs)), .unset, .unset, .unset] [(.int (xm + (1 : Int32))), (.int ((xr * (3 : Int32)) + xs)), (.ref rm), (.int xm)]))
  obtain ⟨T11, h11, X11, e11, W11, A11, st11⟩ := OAL.stI X10 hx hZ e10 A_m (j := ((xr * (3 : Int32)) + xs)) (x := (xm + (1 : Int32))) qm.1 (oat_lt qm) (Ls := #[.val (.ref ra), .val (.int xr), .val (.int xs), .val (.int ((xr * (3 : Int32)) + xs)), .unset, .unset, .unset]) (rest := [(.int xm)]) (hb hby d6_19)
  have f12 : Exa Z h11 ra "com/example/slotwright/slotwright/solver/Occupancy" := E_o.wr W11
  have f13 : Fld Z h11 ra "com/example/slotwright/slotwright/solver/Occupancy" "clashing" "[I" (.ref rk) := F_clashing.other W11 (Or.inl hD.2.2.2.2.2.1)
  have f14 : Fld Z h11 ra "com/example/slotwright/slotwright/solver/Occupancy" "slots" "I" (.int (3 : Int32)) := F_slots.other W11 (Or.inl hD.2.2.2.2.2.1)
  have f15 : Fld Z h11 ra "com/example/slotwright/slotwright/solver/Occupancy" "meetings" "[I" (.ref rm) := F_meetings.other W11 (Or.inl hD.2.2.2.2.2.1)
  have f16 : Fld Z h11 ra "com/example/slotwright/slotwright/solver/Occupancy" "closed" "[Z" (.ref rc) := F_closed.other W11 (Or.inl hD.2.2.2.2.2.1)
  have f17 : Fld Z h11 ra "com/example/slotwright/slotwright/solver/Occupancy" "weights" "[I" (.ref rw) := F_weights.other W11 (Or.inl hD.2.2.2.2.2.1)
  have f18 : Fld Z h11 ra "com/example/slotwright/slotwright/solver/Occupancy" "listed" "[Z" (.ref rl) := F_listed.other W11 (Or.inl hD.2.2.2.2.2.1)
  have f19 : Fld Z h11 ra "com/example/slotwright/slotwright/solver/Occupancy" "clashingCount" "I" (.int cc) := F_clashingCount.other W11 (Or.inl hD.2.2.2.2.2.1)
  have f20 : Fld Z h11 ra "com/example/slotwright/slotwright/solver/Occupancy" "weighted" "J" (.long wd) := F_weighted.other W11 (Or.inl hD.2.2.2.2.2.1)
  have f21 : OAL Z h11 rw .int Wt := A_w.other W11 (Ne.symm hD.2.2.2.2.2.2.2.2.2.2.1)
  have f22 : OAL Z h11 rc .boolean Cl := A_c.other W11 (Ne.symm hD.2.2.2.2.2.2.2.2.2.2.2.1)
  have f23 : OAL Z h11 rl .boolean Li := A_l.other W11 (Ne.symm hD.2.2.2.2.2.2.2.2.2.2.2.2.1)
  have f24 : OAL Z h11 rk .int Ca := A_k.other W11 (Ne.symm hD.2.2.2.2.2.2.2.2.2.2.2.2.2.1)
  have Z25 : n0 ≤ h11.size := Nat.le_trans Z0 (Nat.le_of_eq W11.size.symm)
  have N26 := Fr.snoc X11 N0 hD.2.1
  obtain ⟨Lh27, Xh27, Nh27⟩ := own_hide X11 N26
  have V11 : OAL Z h11 rm .int (M.set ((xr * (3 : Int32)) + xs).toNatClampNeg (xm + (1 : Int32))) := A11
  refine OGo.on st11 ?_
  show OGo p e below s _ _ _ (T11.setTop (mkF m 20 #[.val (.ref ra), .val (.int xr), .val (.int xs), .val (.int ((xr * (3 : Int32)) + xs)), .unset, .unset, .unset] [(.int xm)]))
  have J : ∀ (x4 : Int32), OGo p e below s (Q_own_addA Z ra rm rw rc rl rk M Wt Cl Li Ca cc xr xs xw xm xc xt h0 n0) ({ frames := 1, cells := 0, slots := 0, locals := 16 } : Room).cells ({ frames := 1, cells := 0, slots := 0, locals := 16 } : Room).slots (T11.setTop (mkF m 30 #[.val (.ref ra), .val (.int xr), .val (.int xs), .val (.int ((xr * (3 : Int32)) + xs)), .val (.int x4), .unset, .unset] [])) := by
    intro x4
    show OGo p e below s _ _ _ (T11.setTop (mkF m 30 #[.val (.ref ra), .val (.int xr), .val (.int xs), .val (.int ((xr * (3 : Int32)) + xs)), .val (.int x4), .unset, .unset] []))
    refine OGo.on (fun t k => XS.aloadN Xh27.here hx rfl (hb hby d6_30) rfl rfl k) ?_
    refine OGo.on (fun t k => XS.iloadN Xh27.here hx rfl (hb hby d6_31) rfl k) ?_
    refine OGo.on (fun t k => XS.iloadN Xh27.here hx rfl (hb hby d6_32) rfl k) ?_
    refine OGo.on (fun t k => XS.iconst Xh27.here hx rfl (hb hby d6_33) k) ?_
    show OGo p e below s _ _ _ (T11.setTop (mkF m 34 #[.val (.ref ra), .val (.int xr), .val (.int xs), .val (.int ((xr * (3 : Int32)) + xs)), .val (.int x4), .unset, .unset] [(.int (1 : Int32)), (.int xs), (.int xr), (.ref ra)]))
    obtain ⟨cq28, kq28, q28a, q28b, q28c⟩ := isOf hZ e11 f12
    obtain ⟨_, _, ⟨T28, L28, k28, n28⟩, -, X28, ⟨Lc28, hQ28, l28, y28, z28⟩, st28⟩ := Xh27.virtualBack hx (y := (⟨"com/example/slotwright/slotwright/solver/Occupancy", "clashes", "(III)J"⟩ : MethodName)) (z := (⟨"com/example/slotwright/slotwright/solver/Occupancy", "clashes", "(III)J"⟩ : MethodName)) hown (mvT hZ (hw _ (List.mem_of_getElem? (i := 41) rfl))) (mvT hZ (hw _ (List.mem_of_getElem? (i := 42) rfl))) (notFace_of_selects (args := #[]) (mvT hZ (hw _ (List.mem_of_getElem? (i := 44) rfl)))) (mvT hZ (hw _ (List.mem_of_getElem? (i := 44) rfl))) (mvT hZ (hw _ (List.mem_of_getElem? (i := 43) rfl))) (by decide) (backOf (W := 0) (own_mcl l Z a0 hw [] ra rm rw rc rl rk (M.set ((xr * (3 : Int32)) + xs).toNatClampNeg (xm + 1)) Wt Cl Li Ca cc xr xs (1 : Int32) xw (xm + 1) xc h11 n0 Z25 hD ⟨f12, f13, f14, f15, f16, f17, f18, f19, ⟨_, f20⟩, V11, f21, f22, f23, f24⟩ qw (oat_same qm _) qc) hZ (hw _ (List.mem_of_getElem? (i := 45) rfl)) (hw _ (List.mem_of_getElem? (i := 4) rfl)) (by decide) (by decide)) q28a q28c (g := (mkF m 34 #[.val (.ref ra), .val (.int xr), .val (.int xs), .val (.int ((xr * (3 : Int32)) + xs)), .val (.int x4), .unset, .unset] [(.int (1 : Int32)), (.int xs), (.int xr), (.ref ra)])) rfl (by rw [hml]; rfl) (Steps.refl _) (argsL := [(.int xr), (.int xs), (.int (1 : Int32))]) (rest := []) (lenOf own_pd0 rfl) rfl (by show 2 * 0 + _ ≤ _; exact Nat.le_of_eq rfl) (hb hby d6_34) (fun _ _ => ⟨rfl, e11, (by decide : 0 + 0 ≤ _), (by decide : 0 + 0 ≤ _)⟩)
    dsimp only [Pt.U, Pt.locs, Pt.cells, Pt.slots] at X28 l28 y28 z28 st28 hQ28
    subst l28 y28 z28
    obtain ⟨rfl, N28q, e28⟩ := hQ28
    have N28 := Fr.app Nh27 N28q
    obtain ⟨Lh29, Xh29, Nh29⟩ := own_hide X28 N28
    refine OGo.on (fun t k => st28.trans k) ?_
    show OGo p e below s _ _ _ (T28.setTop (mkF m 37 #[.val (.ref ra), .val (.int xr), .val (.int xs), .val (.int ((xr * (3 : Int32)) + xs)), .val (.int x4), .unset, .unset] [(.long (own_cl xw (xm + 1) 1 xc))]))
    refine OGo.on (fun t k => XS.lstore Xh29.here hx rfl (hb hby d6_37) rfl (l' := #[.val (.ref ra), .val (.int xr), .val (.int xs), .val (.int ((xr * (3 : Int32)) + xs)), .val (.int x4), .val (.long (own_cl xw (xm + 1) 1 xc)), .second]) rfl k) ?_
    refine OGo.on (fun t k => XS.aloadN Xh29.here hx rfl (hb hby d6_39) rfl rfl k) ?_
    refine OGo.on (fun t k => XS.dup Xh29.here hx rfl (hb hby d6_40) rfl rfl k) ?_
    show OGo p e below s _ _ _ (T28.setTop (mkF m 41 #[.val (.ref ra), .val (.int xr), .val (.int xs), .val (.int ((xr * (3 : Int32)) + xs)), .val (.int x4), .val (.long (own_cl xw (xm + 1) 1 xc)), .second] [(.ref ra), (.ref ra)]))
    obtain ⟨T30, X30, e30, st30⟩ := getF Xh29 hx hZ hown (host := "") (Or.inl (hw _ (List.mem_of_getElem? (i := 46) rfl))) Via.refl e28 f20 (g := (mkF m 41 #[.val (.ref ra), .val (.int xr), .val (.int xs), .val (.int ((xr * (3 : Int32)) + xs)), .val (.int x4), .val (.long (own_cl xw (xm + 1) 1 xc)), .second] [(.ref ra), (.ref ra)])) rfl rfl (hb hby d6_41)
    refine OGo.on st30 ?_
    show OGo p e below s _ _ _ (T30.setTop (mkF m 44 #[.val (.ref ra), .val (.int xr), .val (.int xs), .val (.int ((xr * (3 : Int32)) + xs)), .val (.int x4), .val (.long (own_cl xw (xm + 1) 1 xc)), .second] [(.long wd), (.ref ra)]))
    refine OGo.on (fun t k => XS.lload X30.here hx rfl (hb hby d6_44) rfl k) ?_
    refine OGo.on (fun t k => XS.ladd X30.here hx rfl (hb hby d6_46) rfl k) ?_
    show OGo p e below s _ _ _ (T30.setTop (mkF m 47 #[.val (.ref ra), .val (.int xr), .val (.int xs), .val (.int ((xr * (3 : Int32)) + xs)), .val (.int x4), .val (.long (own_cl xw (xm + 1) 1 xc)), .second] [(.long (wd + (own_cl xw (xm + 1) 1 xc))), (.ref ra)]))
    obtain ⟨T31, h31, X31, e31, W31, st31⟩ := putF X30 hx hZ hown (host := "") (Or.inl (hw _ (List.mem_of_getElem? (i := 46) rfl))) Via.refl e30 f20 f12 (Or.inl (hw _ (List.mem_of_getElem? (i := 47) rfl))) (hw _ (List.mem_of_getElem? (i := 3) rfl)) (ty := .long) (by decide) rfl rfl (g := (mkF m 47 #[.val (.ref ra), .val (.int xr), .val (.int xs), .val (.int ((xr * (3 : Int32)) + xs)), .val (.int x4), .val (.long (own_cl xw (xm + 1) 1 xc)), .second] [(.long (wd + (own_cl xw (xm + 1) 1 xc))), (.ref ra)])) rfl rfl (hb hby d6_47)
    have f32 : Exa Z h31 ra "com/example/slotwright/slotwright/solver/Occupancy" := f12.wr W31
    have f33 : Fld Z h31 ra "com/example/slotwright/slotwright/solver/Occupancy" "clashing" "[I" (.ref rk) := f13.other W31 (Or.inr (slot_ne (Or.inl (hw _ (List.mem_of_getElem? (i := 13) rfl))) (Or.inl (hw _ (List.mem_of_getElem? (i := 47) rfl))) (by decide) (t := (.array .int)) (t' := .long) (by decide) (by decide)))
    have f34 : Fld Z h31 ra "com/example/slotwright/slotwright/solver/Occupancy" "slots" "I" (.int (3 : Int32)) := f14.other W31 (Or.inr (slot_ne (Or.inr (hw _ (List.mem_of_getElem? (i := 15) rfl))) (Or.inl (hw _ (List.mem_of_getElem? (i := 47) rfl))) (by decide) (t := .int) (t' := .long) (by decide) (by decide)))
    have f35 : Fld Z h31 ra "com/example/slotwright/slotwright/solver/Occupancy" "meetings" "[I" (.ref rm) := f15.other W31 (Or.inr (slot_ne (Or.inr (hw _ (List.mem_of_getElem? (i := 22) rfl))) (Or.inl (hw _ (List.mem_of_getElem? (i := 47) rfl))) (by decide) (t := (.array .int)) (t' := .long) (by decide) (by decide)))
    have f36 : Fld Z h31 ra "com/example/slotwright/slotwright/solver/Occupancy" "closed" "[Z" (.ref rc) := f16.other W31 (Or.inr (slot_ne (Or.inr (hw _ (List.mem_of_getElem? (i := 24) rfl))) (Or.inl (hw _ (List.mem_of_getElem? (i := 47) rfl))) (by decide) (t := (.array .boolean)) (t' := .long) (by decide) (by decide)))
    have f37 : Fld Z h31 ra "com/example/slotwright/slotwright/solver/Occupancy" "weights" "[I" (.ref rw) := f17.other W31 (Or.inr (slot_ne (Or.inr (hw _ (List.mem_of_getElem? (i := 33) rfl))) (Or.inl (hw _ (List.mem_of_getElem? (i := 47) rfl))) (by decide) (t := (.array .int)) (t' := .long) (by decide) (by decide)))
    have f38 : Fld Z h31 ra "com/example/slotwright/slotwright/solver/Occupancy" "listed" "[Z" (.ref rl) := f18.other W31 (Or.inr (slot_ne (Or.inr (hw _ (List.mem_of_getElem? (i := 35) rfl))) (Or.inl (hw _ (List.mem_of_getElem? (i := 47) rfl))) (by decide) (t := (.array .boolean)) (t' := .long) (by decide) (by decide)))
    have f39 : Fld Z h31 ra "com/example/slotwright/slotwright/solver/Occupancy" "clashingCount" "I" (.int cc) := f19.other W31 (Or.inr (slot_ne (Or.inl (hw _ (List.mem_of_getElem? (i := 49) rfl))) (Or.inl (hw _ (List.mem_of_getElem? (i := 47) rfl))) (by decide) (t := .int) (t' := .long) (by decide) (by decide)))
    have f40 : OAL Z h31 rm .int (M.set ((xr * (3 : Int32)) + xs).toNatClampNeg (xm + (1 : Int32))) := V11.other W31 (Ne.symm hD.2.2.2.2.2.1)
    have f41 : OAL Z h31 rw .int Wt := f21.other W31 (Ne.symm hD.2.2.2.2.2.2.1)
    have f42 : OAL Z h31 rc .boolean Cl := f22.other W31 (Ne.symm hD.2.2.2.2.2.2.2.1)
    have f43 : OAL Z h31 rl .boolean Li := f23.other W31 (Ne.symm hD.2.2.2.2.2.2.2.2.1)
    have f44 : OAL Z h31 rk .int Ca := f24.other W31 (Ne.symm hD.2.2.2.2.2.2.2.2.2.1)
    have Z45 : n0 ≤ h31.size := Nat.le_trans Z25 (Nat.le_of_eq W31.size.symm)
    have N46 := Fr.snoc X31 Nh29 hD.1
    obtain ⟨Lh47, Xh47, Nh47⟩ := own_hide X31 N46
    have f48 : Fld Z h31 ra "com/example/slotwright/slotwright/solver/Occupancy" "weighted" "J" (.long (wd + (own_cl xw (xm + 1) 1 xc))) := f20.same W31
    refine OGo.on st31 ?_
    show OGo p e below s _ _ _ (T31.setTop (mkF m 50 #[.val (.ref ra), .val (.int xr), .val (.int xs), .val (.int ((xr * (3 : Int32)) + xs)), .val (.int x4), .val (.long (own_cl xw (xm + 1) 1 xc)), .second] []))
    refine OGo.on (fun t k => XS.lload Xh47.here hx rfl (hb hby d6_50) rfl k) ?_
    refine OGo.on (fun t k => XS.lconst Xh47.here hx rfl (hb hby d6_52) k) ?_
    refine OGo.on (fun t k => XS.lcmp Xh47.here hx rfl (hb hby d6_53) rfl k) ?_
    show OGo p e below s _ _ _ (T31.setTop (mkF m 54 #[.val (.ref ra), .val (.int xr), .val (.int xs), .val (.int ((xr * (3 : Int32)) + xs)), .val (.int x4), .val (.long (own_cl xw (xm + 1) 1 xc)), .second] [(.int (lcmpW (own_cl xw (xm + 1) 1 xc) (0 : Int64)))]))
    refine OGo.on (fun t k => XS.ifNo Xh47.here hx rfl (hb hby d6_54) rfl (lc_tlt hn).2.2.2 k) ?_
    show OGo p e below s _ _ _ (T31.setTop (mkF m 57 #[.val (.ref ra), .val (.int xr), .val (.int xs), .val (.int ((xr * (3 : Int32)) + xs)), .val (.int x4), .val (.long (own_cl xw (xm + 1) 1 xc)), .second] []))
    refine OGo.on (fun t k => XS.aloadN Xh47.here hx rfl (hb hby d6_57) rfl rfl k) ?_
    show OGo p e below s _ _ _ (T31.setTop (mkF m 58 #[.val (.ref ra), .val (.int xr), .val (.int xs), .val (.int ((xr * (3 : Int32)) + xs)), .val (.int x4), .val (.long (own_cl xw (xm + 1) 1 xc)), .second] [(.ref ra)]))
    obtain ⟨T49, X49, e49, st49⟩ := getF Xh47 hx hZ hown (host := "") (Or.inl (hw _ (List.mem_of_getElem? (i := 34) rfl))) Via.refl e31 f38 (g := (mkF m 58 #[.val (.ref ra), .val (.int xr), .val (.int xs), .val (.int ((xr * (3 : Int32)) + xs)), .val (.int x4), .val (.long (own_cl xw (xm + 1) 1 xc)), .second] [(.ref ra)])) rfl rfl (hb hby d6_58)
    refine OGo.on st49 ?_
    show OGo p e below s _ _ _ (T49.setTop (mkF m 61 #[.val (.ref ra), .val (.int xr), .val (.int xs), .val (.int ((xr * (3 : Int32)) + xs)), .val (.int x4), .val (.long (own_cl xw (xm + 1) 1 xc)), .second] [(.ref rl)]))
    refine OGo.on (fun t k => XS.iloadN X49.here hx rfl (hb hby d6_61) rfl k) ?_
    show OGo p e below s _ _ _ (T49.setTop (mkF m 62 #[.val (.ref ra), .val (.int xr), .val (.int xs), .val (.int ((xr * (3 : Int32)) + xs)), .val (.int x4), .val (.long (own_cl xw (xm + 1) 1 xc)), .second] [(.int ((xr * (3 : Int32)) + xs)), (.ref rl)]))
    refine OGo.on (fun t k => OAL.baZ X49 hx hZ e49 f43 qt (hb hby d6_62) k) ?_
    show OGo p e below s _ _ _ (T49.setTop (mkF m 63 #[.val (.ref ra), .val (.int xr), .val (.int xs), .val (.int ((xr * (3 : Int32)) + xs)), .val (.int x4), .val (.long (own_cl xw (xm + 1) 1 xc)), .second] [(.int xt)]))
    refine OGo.on (fun t k => XS.ifNo X49.here hx rfl (hb hby d6_63) rfl ((if0 _ _).trans (teq ht).2) k) ?_
    show OGo p e below s _ _ _ (T49.setTop (mkF m 66 #[.val (.ref ra), .val (.int xr), .val (.int xs), .val (.int ((xr * (3 : Int32)) + xs)), .val (.int x4), .val (.long (own_cl xw (xm + 1) 1 xc)), .second] []))
    refine OGo.on (fun t k => XS.aloadN X49.here hx rfl (hb hby d6_66) rfl rfl k) ?_
    show OGo p e below s _ _ _ (T49.setTop (mkF m 67 #[.val (.ref ra), .val (.int xr), .val (.int xs), .val (.int ((xr * (3 : Int32)) + xs)), .val (.int x4), .val (.long (own_cl xw (xm + 1) 1 xc)), .second] [(.ref ra)]))
    obtain ⟨T50, X50, e50, st50⟩ := getF X49 hx hZ hown (host := "") (Or.inl (hw _ (List.mem_of_getElem? (i := 48) rfl))) Via.refl e49 f39 (g := (mkF m 67 #[.val (.ref ra), .val (.int xr), .val (.int xs), .val (.int ((xr * (3 : Int32)) + xs)), .val (.int x4), .val (.long (own_cl xw (xm + 1) 1 xc)), .second] [(.ref ra)])) rfl rfl (hb hby d6_67)
    refine OGo.on st50 ?_
    show OGo p e below s _ _ _ (T50.setTop (mkF m 70 #[.val (.ref ra), .val (.int xr), .val (.int xs), .val (.int ((xr * (3 : Int32)) + xs)), .val (.int x4), .val (.long (own_cl xw (xm + 1) 1 xc)), .second] [(.int cc)]))
    refine OGo.on (fun t k => XS.aloadN X50.here hx rfl (hb hby d6_70) rfl rfl k) ?_
    show OGo p e below s _ _ _ (T50.setTop (mkF m 71 #[.val (.ref ra), .val (.int xr), .val (.int xs), .val (.int ((xr * (3 : Int32)) + xs)), .val (.int x4), .val (.long (own_cl xw (xm + 1) 1 xc)), .second] [(.ref ra), (.int cc)]))
    obtain ⟨T51, X51, e51, st51⟩ := getF X50 hx hZ hown (host := "") (Or.inl (hw _ (List.mem_of_getElem? (i := 12) rfl))) Via.refl e50 f33 (g := (mkF m 71 #[.val (.ref ra), .val (.int xr), .val (.int xs), .val (.int ((xr * (3 : Int32)) + xs)), .val (.int x4), .val (.long (own_cl xw (xm + 1) 1 xc)), .second] [(.ref ra), (.int cc)])) rfl rfl (hb hby d6_71)
    refine OGo.on st51 ?_
    show OGo p e below s _ _ _ (T51.setTop (mkF m 74 #[.val (.ref ra), .val (.int xr), .val (.int xs), .val (.int ((xr * (3 : Int32)) + xs)), .val (.int x4), .val (.long (own_cl xw (xm + 1) 1 xc)), .second] [(.ref rk), (.int cc)]))
    refine OGo.on (fun t k => OAL.len X51 hx hZ e51 f44 (by rw [hca] <;> decide) (hb hby d6_74) k) ?_
    show OGo p e below s _ _ _ (T51.setTop (mkF m 75 #[.val (.ref ra), .val (.int xr), .val (.int xs), .val (.int ((xr * (3 : Int32)) + xs)), .val (.int x4), .val (.long (own_cl xw (xm + 1) 1 xc)), .second] [(.int (16 : Int32)), (.int cc)]))
    refine OGo.on (fun t k => XS.icmpYes X51.here hx rfl (pc0 := 75) (pc' := 96) rfl (hb hby d6_75) rfl (feq hcc).2 (by decide) (by decide) k) ?_
    show OGo p e below s _ _ _ (T51.setTop (mkF m 96 #[.val (.ref ra), .val (.int xr), .val (.int xs), .val (.int ((xr * (3 : Int32)) + xs)), .val (.int x4), .val (.long (own_cl xw (xm + 1) 1 xc)), .second] []))
    refine OGo.on (fun t k => XS.aloadN X51.here hx rfl (hb hby d6_96) rfl rfl k) ?_
    show OGo p e below s _ _ _ (T51.setTop (mkF m 97 #[.val (.ref ra), .val (.int xr), .val (.int xs), .val (.int ((xr * (3 : Int32)) + xs)), .val (.int x4), .val (.long (own_cl xw (xm + 1) 1 xc)), .second] [(.ref ra)]))
    obtain ⟨T52, X52, e52, st52⟩ := getF X51 hx hZ hown (host := "") (Or.inl (hw _ (List.mem_of_getElem? (i := 12) rfl))) Via.refl e51 f33 (g := (mkF m 97 #[.val (.ref ra), .val (.int xr), .val (.int xs), .val (.int ((xr * (3 : Int32)) + xs)), .val (.int x4), .val (.long (own_cl xw (xm + 1) 1 xc)), .second] [(.ref ra)])) rfl rfl (hb hby d6_97)
    refine OGo.on st52 ?_
    show OGo p e below s _ _ _ (T52.setTop (mkF m 100 #[.val (.ref ra), .val (.int xr), .val (.int xs), .val (.int ((xr * (3 : Int32)) + xs)), .val (.int x4), .val (.long (own_cl xw (xm + 1) 1 xc)), .second] [(.ref rk)]))
    refine OGo.on (fun t k => XS.aloadN X52.here hx rfl (hb hby d6_100) rfl rfl k) ?_
    refine OGo.on (fun t k => XS.dup X52.here hx rfl (hb hby d6_101) rfl rfl k) ?_
    show OGo p e below s _ _ _ (T52.setTop (mkF m 102 #[.val (.ref ra), .val (.int xr), .val (.int xs), .val (.int ((xr * (3 : Int32)) + xs)), .val (.int x4), .val (.long (own_cl xw (xm + 1) 1 xc)), .second] [(.ref ra), (.ref ra), (.ref rk)]))
    obtain ⟨T53, X53, e53, st53⟩ := getF X52 hx hZ hown (host := "") (Or.inl (hw _ (List.mem_of_getElem? (i := 48) rfl))) Via.refl e52 f39 (g := (mkF m 102 #[.val (.ref ra), .val (.int xr), .val (.int xs), .val (.int ((xr * (3 : Int32)) + xs)), .val (.int x4), .val (.long (own_cl xw (xm + 1) 1 xc)), .second] [(.ref ra), (.ref ra), (.ref rk)])) rfl rfl (hb hby d6_102)
    refine OGo.on st53 ?_
    show OGo p e below s _ _ _ (T53.setTop (mkF m 105 #[.val (.ref ra), .val (.int xr), .val (.int xs), .val (.int ((xr * (3 : Int32)) + xs)), .val (.int x4), .val (.long (own_cl xw (xm + 1) 1 xc)), .second] [(.int cc), (.ref ra), (.ref rk)]))
    refine OGo.on (fun t k => XS.dupX1 X53.here hx rfl (hb hby d6_105) rfl rfl rfl k) ?_
    show OGo p e below s _ _ _ (T53.setTop (mkF m 106 #[.val (.ref ra), .val (.int xr), .val (.int xs), .val (.int ((xr * (3 : Int32)) + xs)), .val (.int x4), .val (.long (own_cl xw (xm + 1) 1 xc)), .second] [(.int cc), (.ref ra), (.int cc), (.ref rk)]))
    refine OGo.on (fun t k => XS.iconst X53.here hx rfl (hb hby d6_106) k) ?_
    refine OGo.on (fun t k => XS.iadd X53.here hx rfl (hb hby d6_107) rfl k) ?_
    show OGo p e below s _ _ _ (T53.setTop (mkF m 108 #[.val (.ref ra), .val (.int xr), .val (.int xs), .val (.int ((xr * (3 : Int32)) + xs)), .val (.int x4), .val (.long (own_cl xw (xm + 1) 1 xc)), .second] [(.int (cc + (1 : Int32))), (.ref ra), (.int cc), (.ref rk)]))
    obtain ⟨T54, h54, X54, e54, W54, st54⟩ := putF X53 hx hZ hown (host := "") (Or.inl (hw _ (List.mem_of_getElem? (i := 48) rfl))) Via.refl e53 f39 f32 (Or.inl (hw _ (List.mem_of_getElem? (i := 49) rfl))) (hw _ (List.mem_of_getElem? (i := 3) rfl)) (ty := .int) (by decide) rfl rfl (g := (mkF m 108 #[.val (.ref ra), .val (.int xr), .val (.int xs), .val (.int ((xr * (3 : Int32)) + xs)), .val (.int x4), .val (.long (own_cl xw (xm + 1) 1 xc)), .second] [(.int (cc + (1 : Int32))), (.ref ra), (.int cc), (.ref rk)])) rfl rfl (hb hby d6_108)
    have f55 : Exa Z h54 ra "com/example/slotwright/slotwright/solver/Occupancy" := f32.wr W54
    have f56 : Fld Z h54 ra "com/example/slotwright/slotwright/solver/Occupancy" "clashing" "[I" (.ref rk) := f33.other W54 (Or.inr (slot_ne (Or.inl (hw _ (List.mem_of_getElem? (i := 13) rfl))) (Or.inl (hw _ (List.mem_of_getElem? (i := 49) rfl))) (by decide) (t := (.array .int)) (t' := .int) (by decide) (by decide)))
    have f57 : Fld Z h54 ra "com/example/slotwright/slotwright/solver/Occupancy" "slots" "I" (.int (3 : Int32)) := f34.other W54 (Or.inr (slot_ne (Or.inr (hw _ (List.mem_of_getElem? (i := 15) rfl))) (Or.inl (hw _ (List.mem_of_getElem? (i := 49) rfl))) (by decide) (t := .int) (t' := .int) (by decide) (by decide)))
    have f58 : Fld Z h54 ra "com/example/slotwright/slotwright/solver/Occupancy" "meetings" "[I" (.ref rm) := f35.other W54 (Or.inr (slot_ne (Or.inr (hw _ (List.mem_of_getElem? (i := 22) rfl))) (Or.inl (hw _ (List.mem_of_getElem? (i := 49) rfl))) (by decide) (t := (.array .int)) (t' := .int) (by decide) (by decide)))
    have f59 : Fld Z h54 ra "com/example/slotwright/slotwright/solver/Occupancy" "closed" "[Z" (.ref rc) := f36.other W54 (Or.inr (slot_ne (Or.inr (hw _ (List.mem_of_getElem? (i := 24) rfl))) (Or.inl (hw _ (List.mem_of_getElem? (i := 49) rfl))) (by decide) (t := (.array .boolean)) (t' := .int) (by decide) (by decide)))
    have f60 : Fld Z h54 ra "com/example/slotwright/slotwright/solver/Occupancy" "weights" "[I" (.ref rw) := f37.other W54 (Or.inr (slot_ne (Or.inr (hw _ (List.mem_of_getElem? (i := 33) rfl))) (Or.inl (hw _ (List.mem_of_getElem? (i := 49) rfl))) (by decide) (t := (.array .int)) (t' := .int) (by decide) (by decide)))
    have f61 : Fld Z h54 ra "com/example/slotwright/slotwright/solver/Occupancy" "listed" "[Z" (.ref rl) := f38.other W54 (Or.inr (slot_ne (Or.inr (hw _ (List.mem_of_getElem? (i := 35) rfl))) (Or.inl (hw _ (List.mem_of_getElem? (i := 49) rfl))) (by decide) (t := (.array .boolean)) (t' := .int) (by decide) (by decide)))
    have f62 : Fld Z h54 ra "com/example/slotwright/slotwright/solver/Occupancy" "weighted" "J" (.long (wd + (own_cl xw (xm + 1) 1 xc))) := f48.other W54 (Or.inr (slot_ne (Or.inl (hw _ (List.mem_of_getElem? (i := 47) rfl))) (Or.inl (hw _ (List.mem_of_getElem? (i := 49) rfl))) (by decide) (t := .long) (t' := .int) (by decide) (by decide)))
    have f63 : OAL Z h54 rm .int (M.set ((xr * (3 : Int32)) + xs).toNatClampNeg (xm + (1 : Int32))) := f40.other W54 (Ne.symm hD.2.2.2.2.2.1)
    have f64 : OAL Z h54 rw .int Wt := f41.other W54 (Ne.symm hD.2.2.2.2.2.2.1)
    have f65 : OAL Z h54 rc .boolean Cl := f42.other W54 (Ne.symm hD.2.2.2.2.2.2.2.1)
    have f66 : OAL Z h54 rl .boolean Li := f43.other W54 (Ne.symm hD.2.2.2.2.2.2.2.2.1)
    have f67 : OAL Z h54 rk .int Ca := f44.other W54 (Ne.symm hD.2.2.2.2.2.2.2.2.2.1)
    have Z68 : n0 ≤ h54.size := Nat.le_trans Z45 (Nat.le_of_eq W54.size.symm)
    have N69 := Fr.snoc X54 Nh47 hD.1
    obtain ⟨Lh70, Xh70, Nh70⟩ := own_hide X54 N69
    have f71 : Fld Z h54 ra "com/example/slotwright/slotwright/solver/Occupancy" "clashingCount" "I" (.int (cc + (1 : Int32))) := f39.same W54
    refine OGo.on st54 ?_
    show OGo p e below s _ _ _ (T54.setTop (mkF m 111 #[.val (.ref ra), .val (.int xr), .val (.int xs), .val (.int ((xr * (3 : Int32)) + xs)), .val (.int x4), .val (.long (own_cl xw (xm + 1) 1 xc)), .second] [(.int cc), (.ref rk)]))
    refine OGo.on (fun t k => XS.iloadN Xh70.here hx rfl (hb hby d6_111) rfl k) ?_
    show OGo p e below s _ _ _ (T54.setTop (mkF m 112 #[.val (.ref ra), .val (.int xr), .val (.int xs), .val (.int ((xr * (3 : Int32)) + xs)), .val (.int x4), .val (.long (own_cl xw (xm + 1) 1 xc)), .second] [(.int ((xr * (3 : Int32)) + xs)), (.int cc), (.ref rk)]))
    obtain ⟨T72, h72, X72, e72, W72, A72, st72⟩ := OAL.stI Xh70 hx hZ e54 f67 (j := cc) (x := ((xr * (3 : Int32)) + xs)) hc0 (by rw [hca]; exact hc1) (Ls := #[.val (.ref ra), .val (.int xr), .val (.int xs), .val (.int ((xr * (3 : Int32)) + xs)), .val (.int x4), .val (.long (own_cl xw (xm + 1) 1 xc)), .second]) (rest := []) (hb hby d6_112)
    have f73 : Exa Z h72 ra "com/example/slotwright/slotwright/solver/Occupancy" := f55.wr W72
    have f74 : Fld Z h72 ra "com/example/slotwright/slotwright/solver/Occupancy" "clashing" "[I" (.ref rk) := f56.other W72 (Or.inl hD.2.2.2.2.2.2.2.2.2.1)
    have f75 : Fld Z h72 ra "com/example/slotwright/slotwright/solver/Occupancy" "slots" "I" (.int (3 : Int32)) := f57.other W72 (Or.inl hD.2.2.2.2.2.2.2.2.2.1)
    have f76 : Fld Z h72 ra "com/example/slotwright/slotwright/solver/Occupancy" "meetings" "[I" (.ref rm) := f58.other W72 (Or.inl hD.2.2.2.2.2.2.2.2.2.1)
    have f77 : Fld Z h72 ra "com/example/slotwright/slotwright/solver/Occupancy" "closed" "[Z" (.ref rc) := f59.other W72 (Or.inl hD.2.2.2.2.2.2.2.2.2.1)
    have f78 : Fld Z h72 ra "com/example/slotwright/slotwright/solver/Occupancy" "weights" "[I" (.ref rw) := f60.other W72 (Or.inl hD.2.2.2.2.2.2.2.2.2.1)
    have f79 : Fld Z h72 ra "com/example/slotwright/slotwright/solver/Occupancy" "listed" "[Z" (.ref rl) := f61.other W72 (Or.inl hD.2.2.2.2.2.2.2.2.2.1)
    have f80 : Fld Z h72 ra "com/example/slotwright/slotwright/solver/Occupancy" "clashingCount" "I" (.int (cc + (1 : Int32))) := f71.other W72 (Or.inl hD.2.2.2.2.2.2.2.2.2.1)
    have f81 : Fld Z h72 ra "com/example/slotwright/slotwright/solver/Occupancy" "weighted" "J" (.long (wd + (own_cl xw (xm + 1) 1 xc))) := f62.other W72 (Or.inl hD.2.2.2.2.2.2.2.2.2.1)
    have f82 : OAL Z h72 rm .int (M.set ((xr * (3 : Int32)) + xs).toNatClampNeg (xm + (1 : Int32))) := f63.other W72 hD.2.2.2.2.2.2.2.2.2.2.2.2.2.1
    have f83 : OAL Z h72 rw .int Wt := f64.other W72 hD.2.2.2.2.2.2.2.2.2.2.2.2.2.2.2.2.1
    have f84 : OAL Z h72 rc .boolean Cl := f65.other W72 hD.2.2.2.2.2.2.2.2.2.2.2.2.2.2.2.2.2.2.1
    have f85 : OAL Z h72 rl .boolean Li := f66.other W72 hD.2.2.2.2.2.2.2.2.2.2.2.2.2.2.2.2.2.2.2
    have Z86 : n0 ≤ h72.size := Nat.le_trans Z68 (Nat.le_of_eq W72.size.symm)
    have N87 := Fr.snoc X72 Nh70 hD.2.2.2.2.1
    obtain ⟨Lh88, Xh88, Nh88⟩ := own_hide X72 N87
    have V72 : OAL Z h72 rk .int (Ca.set cc.toNatClampNeg ((xr * (3 : Int32)) + xs)) := A72
    refine OGo.on st72 ?_
    show OGo p e below s _ _ _ (T72.setTop (mkF m 113 #[.val (.ref ra), .val (.int xr), .val (.int xs), .val (.int ((xr * (3 : Int32)) + xs)), .val (.int x4), .val (.long (own_cl xw (xm + 1) 1 xc)), .second] []))
    refine OGo.on (fun t k => XS.aloadN Xh88.here hx rfl (hb hby d6_113) rfl rfl k) ?_
    show OGo p e below s _ _ _ (T72.setTop (mkF m 114 #[.val (.ref ra), .val (.int xr), .val (.int xs), .val (.int ((xr * (3 : Int32)) + xs)), .val (.int x4), .val (.long (own_cl xw (xm + 1) 1 xc)), .second] [(.ref ra)]))
    obtain ⟨T89, X89, e89, st89⟩ := getF Xh88 hx hZ hown (host := "") (Or.inl (hw _ (List.mem_of_getElem? (i := 34) rfl))) Via.refl e72 f79 (g := (mkF m 114 #[.val (.ref ra), .val (.int xr), .val (.int xs), .val (.int ((xr * (3 : Int32)) + xs)), .val (.int x4), .val (.long (own_cl xw (xm + 1) 1 xc)), .second] [(.ref ra)])) rfl rfl (hb hby d6_114)
    refine OGo.on st89 ?_
    show OGo p e below s _ _ _ (T89.setTop (mkF m 117 #[.val (.ref ra), .val (.int xr), .val (.int xs), .val (.int ((xr * (3 : Int32)) + xs)), .val (.int x4), .val (.long (own_cl xw (xm + 1) 1 xc)), .second] [(.ref rl)]))
    refine OGo.on (fun t k => XS.iloadN X89.here hx rfl (hb hby d6_117) rfl k) ?_
    refine OGo.on (fun t k => XS.iconst X89.here hx rfl (hb hby d6_118) k) ?_
    show OGo p e below s _ _ _ (T89.setTop (mkF m 119 #[.val (.ref ra), .val (.int xr), .val (.int xs), .val (.int ((xr * (3 : Int32)) + xs)), .val (.int x4), .val (.long (own_cl xw (xm + 1) 1 xc)), .second] [(.int (1 : Int32)), (.int ((xr * (3 : Int32)) + xs)), (.ref rl)]))
    obtain ⟨T90, h90, X90, e90, W90, A90, st90⟩ := OAL.stZ X89 hx hZ e89 f85 (j := ((xr * (3 : Int32)) + xs)) (x := (1 : Int32)) qt.1 (oat_lt qt) (Ls := #[.val (.ref ra), .val (.int xr), .val (.int xs), .val (.int ((xr * (3 : Int32)) + xs)), .val (.int x4), .val (.long (own_cl xw (xm + 1) 1 xc)), .second]) (rest := []) (hb hby d6_119)
    have f91 : Exa Z h90 ra "com/example/slotwright/slotwright/solver/Occupancy" := f73.wr W90
    have f92 : Fld Z h90 ra "com/example/slotwright/slotwright/solver/Occupancy" "clashing" "[I" (.ref rk) := f74.other W90 (Or.inl hD.2.2.2.2.2.2.2.2.1)
    have f93 : Fld Z h90 ra "com/example/slotwright/slotwright/solver/Occupancy" "slots" "I" (.int (3 : Int32)) := f75.other W90 (Or.inl hD.2.2.2.2.2.2.2.2.1)
    have f94 : Fld Z h90 ra "com/example/slotwright/slotwright/solver/Occupancy" "meetings" "[I" (.ref rm) := f76.other W90 (Or.inl hD.2.2.2.2.2.2.2.2.1)
    have f95 : Fld Z h90 ra "com/example/slotwright/slotwright/solver/Occupancy" "closed" "[Z" (.ref rc) := f77.other W90 (Or.inl hD.2.2.2.2.2.2.2.2.1)
    have f96 : Fld Z h90 ra "com/example/slotwright/slotwright/solver/Occupancy" "weights" "[I" (.ref rw) := f78.other W90 (Or.inl hD.2.2.2.2.2.2.2.2.1)
    have f97 : Fld Z h90 ra "com/example/slotwright/slotwright/solver/Occupancy" "listed" "[Z" (.ref rl) := f79.other W90 (Or.inl hD.2.2.2.2.2.2.2.2.1)
    have f98 : Fld Z h90 ra "com/example/slotwright/slotwright/solver/Occupancy" "clashingCount" "I" (.int (cc + (1 : Int32))) := f80.other W90 (Or.inl hD.2.2.2.2.2.2.2.2.1)
    have f99 : Fld Z h90 ra "com/example/slotwright/slotwright/solver/Occupancy" "weighted" "J" (.long (wd + (own_cl xw (xm + 1) 1 xc))) := f81.other W90 (Or.inl hD.2.2.2.2.2.2.2.2.1)
    have f100 : OAL Z h90 rm .int (M.set ((xr * (3 : Int32)) + xs).toNatClampNeg (xm + (1 : Int32))) := f82.other W90 hD.2.2.2.2.2.2.2.2.2.2.2.2.1
    have f101 : OAL Z h90 rw .int Wt := f83.other W90 hD.2.2.2.2.2.2.2.2.2.2.2.2.2.2.2.1
    have f102 : OAL Z h90 rc .boolean Cl := f84.other W90 hD.2.2.2.2.2.2.2.2.2.2.2.2.2.2.2.2.2.1
    have f103 : OAL Z h90 rk .int (Ca.set cc.toNatClampNeg ((xr * (3 : Int32)) + xs)) := V72.other W90 (Ne.symm hD.2.2.2.2.2.2.2.2.2.2.2.2.2.2.2.2.2.2.2)
    have Z104 : n0 ≤ h90.size := Nat.le_trans Z86 (Nat.le_of_eq W90.size.symm)
    have N105 := Fr.snoc X90 Nh88 hD.2.2.2.1
    obtain ⟨Lh106, Xh106, Nh106⟩ := own_hide X90 N105
    have V90 : OAL Z h90 rl .boolean (Li.set ((xr * (3 : Int32)) + xs).toNatClampNeg (1 : Int32)) := A90
    refine OGo.on st90 ?_
    show OGo p e below s _ _ _ (T90.setTop (mkF m 120 #[.val (.ref ra), .val (.int xr), .val (.int xs), .val (.int ((xr * (3 : Int32)) + xs)), .val (.int x4), .val (.long (own_cl xw (xm + 1) 1 xc)), .second] []))
    refine OGo.on (fun t k => XS.iload Xh106.here hx rfl (hb hby d6_120) rfl k) ?_
    show OGo p e below s _ _ _ (T90.setTop (mkF m 122 #[.val (.ref ra), .val (.int xr), .val (.int xs), .val (.int ((xr * (3 : Int32)) + xs)), .val (.int x4), .val (.long (own_cl xw (xm + 1) 1 xc)), .second] [(.int x4)]))
    exact OGo.retI Xh106 hx hret hlk (hb hby d6_122) ⟨⟨_, rfl⟩, Nh106, by rw [e90]; exact Z104, by rw [e90]; exact ⟨f91, f92, f93, f94, f95, f96, f97, f98, ⟨_, f99⟩, f100, f101, f102, V90, f103⟩⟩ (by decide) (by decide)
  by_cases hc107 : (0 : Int32) < xm
  · refine OGo.on (fun t k => XS.ifNo Xh27.here hx rfl (hb hby d6_20) rfl ((if0 _ _).trans (tlt hc107).2.2.2) k) ?_
    show OGo p e below s _ _ _ (T11.setTop (mkF m 23 #[.val (.ref ra), .val (.int xr), .val (.int xs), .val (.int ((xr * (3 : Int32)) + xs)), .unset, .unset, .unset] []))
    refine OGo.on (fun t k => XS.iconst Xh27.here hx rfl (hb hby d6_23) k) ?_
    refine OGo.on (fun t k => XS.goto Xh27.here hx rfl (pc0 := 24) (pc' := 28) rfl (hb hby d6_24) (by decide) (by decide) k) ?_
    refine OGo.on (fun t k => XS.istore Xh27.here hx rfl (hb hby d6_28) rfl (l' := #[.val (.ref ra), .val (.int xr), .val (.int xs), .val (.int ((xr * (3 : Int32)) + xs)), .val (.int (1 : Int32)), .unset, .unset]) rfl k) ?_
    show OGo p e below s _ _ _ (T11.setTop (mkF m 30 #[.val (.ref ra), .val (.int xr), .val (.int xs), .val (.int ((xr * (3 : Int32)) + xs)), .val (.int (1 : Int32)), .unset, .unset] []))
    exact J _
  · refine OGo.on (fun t k => XS.ifYes Xh27.here hx rfl (pc0 := 20) (pc' := 27) rfl (hb hby d6_20) rfl ((if0 _ _).trans (flt hc107).2.2.2) (by decide) (by decide) k) ?_
    show OGo p e below s _ _ _ (T11.setTop (mkF m 27 #[.val (.ref ra), .val (.int xr), .val (.int xs), .val (.int ((xr * (3 : Int32)) + xs)), .unset, .unset, .unset] []))
    refine OGo.on (fun t k => XS.iconst Xh27.here hx rfl (hb hby d6_27) k) ?_
    refine OGo.on (fun t k => XS.istore Xh27.here hx rfl (hb hby d6_28) rfl (l' := #[.val (.ref ra), .val (.int xr), .val (.int xs), .val (.int ((xr * (3 : Int32)) + xs)), .val (.int (0 : Int32)), .unset, .unset]) rfl k) ?_
    show OGo p e below s _ _ _ (T11.setTop (mkF m 30 #[.val (.ref ra), .val (.int xr), .val (.int xs), .val (.int ((xr * (3 : Int32)) + xs)), .val (.int (0 : Int32)), .unset, .unset] []))
    exact J _
def Q_own_addB (Z : State) (ra rm rw rc rl rk : Addr) (M Wt Cl Li Ca : List Int32) (cc xr xs xw xm xc xt : Int32)  (h0 : Heap) (n0 : Nat) (v : Option Value) (h : Heap) (L : List Loc) : Prop := (∃ z, v = some (.int z)) ∧ Fr n0 L ∧ n0 ≤ h.size ∧ OCC Z h ra rm rw rc rl rk (M.set ((xr * (3 : Int32)) + xs).toNatClampNeg (xm + 1)) Wt Cl Li Ca cc
theorem ef_own_addB (m : MethodId) (x0 : Addr) (x1 : Int32) (x2 : Int32) : entryFrame m #[(.ref x0), (.int x1), (.int x2)] 7 = mkF m 0 #[.val (.ref x0), .val (.int x1), .val (.int x2), .unset, .unset, .unset, .unset] [] := by first | (simp [entryFrame, mkF, argsToLocals, Value.category]; done) | rfl
set_option maxRecDepth 65536 in
set_option maxHeartbeats 40000000 in
theorem own_addB (l : Launch) (Z : State) (a0 : Array Value) (hw : ∀ d ∈ tables_1, d.before a0 Z = true) (ws : List Jvm.Cond) (ra rm rw rc rl rk : Addr) (M Wt Cl Li Ca : List Int32) (cc xr xs xw xm xc xt : Int32)  (h0 : Heap) (n0 : Nat) (Z0 : n0 ≤ h0.size) (hD : OAD n0 ra rm rw rc rl rk) (O : OCC Z h0 ra rm rw rc rl rk M Wt Cl Li Ca cc) (qw : OAt Wt ((xr * (3 : Int32)) + xs) xw) (qm : OAt M ((xr * (3 : Int32)) + xs) xm) (qc : OAt Cl ((xr * (3 : Int32)) + xs) xc) (qt : OAt Li ((xr * (3 : Int32)) + xs) xt) (hB : ¬ 0 < (own_cl xw (xm + 1) 1 xc) ∨ ¬ xt = 0)  :
    MetFree l (⟨"com/example/slotwright/slotwright/solver/Occupancy", "add", "(II)I"⟩ : MethodName) (head1 (Jvm.Cond.code (⟨"com/example/slotwright/slotwright/solver/Occupancy", "add", "(II)I"⟩ : MethodName) prog_60_method_4_code 7 (some .int) :: ws) ({ frames := 1, cells := 0, slots := 0, locals := 16 } : Room)) (fun a U => a = #[(.ref ra), (.int xr), (.int xs)] ∧ Z.Warmed39 U.vm ∧ U.heap = h0) (fun _ _ _ _ _ => True) (fun _ U o U' => ∃ v L, o = .returned v ∧ (Q_own_addB Z ra rm rw rc rl rk M Wt Cl Li Ca cc xr xs xw xm xc xt h0 n0) v U'.heap L ∧ FrameEnd U o U' L ({ frames := 1, cells := 0, slots := 0, locals := 16 } : Room).cells ({ frames := 1, cells := 0, slots := 0, locals := 16 } : Room).slots) := by
  refine MetFree.of_bodySF (plainFor_of_name own_pn0) hisR ?_
  intro p e s m args below meth c s₁ Bd hml0 hP hK
  obtain ⟨rfl, hZ, hh⟩ := hP
  have hx := Bd.exec
  have hby := Bd.bytes
  have hret := Bd.returns
  have hlk : meth.locks = false := Bd.notSynchronized
  have hml : c.maxLocals = 7 := hml0
  have hown : s.vm.findClass "com/example/slotwright/slotwright/solver/Occupancy" = some m.cls := findClass_of_methodNamed Bd.named
  have hnm := (name_of_methodNamed Bd.named Bd.method).1
  have X0 : Stand p l e ({ frames := 1, cells := 0, slots := 0, locals := 16 } : Room) s m #[(.ref ra), (.int xr), (.int xs)] below meth c s₁ [] 0 0 := Stand.of_body Bd
  have e0 : s₁.heap = h0 := by rw [← hh, Bd.state]; rfl
  have N0 := Fr.nil n0
  have pre0 : ∀ t, Steps p.tables e below (s₁.setTop (mkF m 0 #[.val (.ref ra), .val (.int xr), .val (.int xs), .unset, .unset, .unset, .unset] [])) t → Steps p.tables e below (s₁.setTop (entryFrame m #[(.ref ra), (.int xr), (.int xs)] 7)) t := fun t k => castTop (ef_own_addB m ra xr xs) k
  show OGo p e below s (Q_own_addB Z ra rm rw rc rl rk M Wt Cl Li Ca cc xr xs xw xm xc xt h0 n0) ({ frames := 1, cells := 0, slots := 0, locals := 16 } : Room).cells ({ frames := 1, cells := 0, slots := 0, locals := 16 } : Room).slots (s₁.setTop (entryFrame m #[(.ref ra), (.int xr), (.int xs)] 7))
  refine OGo.on pre0 ?_
  show OGo p e below s _ _ _ (s₁.setTop (mkF m 0 #[.val (.ref ra), .val (.int xr), .val (.int xs), .unset, .unset, .unset, .unset] []))
  obtain ⟨E_o, F_clashing, F_slots, F_meetings, F_closed, F_weights, F_listed, F_clashingCount, ⟨wd, F_weighted⟩, A_m, A_w, A_c, A_l, A_k⟩ := O
  refine OGo.on (fun t k => XS.iloadN X0.here hx rfl (hb hby d6_0) rfl k) ?_
  refine OGo.on (fun t k => XS.aloadN X0.here hx rfl (hb hby d6_1) rfl rfl k) ?_
  show OGo p e below s _ _ _ (s₁.setTop (mkF m 2 #[.val (.ref ra), .val (.int xr), .val (.int xs), .unset, .unset, .unset, .unset] [(.ref ra), (.int xr)]))
  obtain ⟨T108, X108, e108, st108⟩ := getF X0 hx hZ hown (host := "") (Or.inl (hw _ (List.mem_of_getElem? (i := 14) rfl))) Via.refl e0 F_slots (g := (mkF m 2 #[.val (.ref ra), .val (.int xr), .val (.int xs), .unset, .unset, .unset, .unset] [(.ref ra), (.int xr)])) rfl rfl (hb hby d6_2)
  refine OGo.on st108 ?_
  show OGo p e below s _ _ _ (T108.setTop (mkF m 5 #[.val (.ref ra), .val (.int xr), .val (.int xs), .unset, .unset, .unset, .unset] [(.int (3 : Int32)), (.int xr)]))
  refine OGo.on (fun t k => XS.imul X108.here hx rfl (hb hby d6_5) rfl k) ?_
  refine OGo.on (fun t k => XS.iloadN X108.here hx rfl (hb hby d6_6) rfl k) ?_
  refine OGo.on (fun t k => XS.iadd X108.here hx rfl (hb hby d6_7) rfl k) ?_
  refine OGo.on (fun t k => XS.istoreN X108.here hx rfl (hb hby d6_8) rfl (l' := #[.val (.ref ra), .val (.int xr), .val (.int xs), .val (.int ((xr * (3 : Int32)) + xs)), .unset, .unset, .unset]) rfl k) ?_
  show OGo p e below s _ _ _ (T108.setTop (mkF m 9 #[.val (.ref ra), .val (.int xr), .val (.int xs), .val (.int ((xr * (3 : Int32)) + xs)), .unset, .unset, .unset] []))
  refine OGo.on (fun t k => XS.aloadN X108.here hx rfl (hb hby d6_9) rfl rfl k) ?_
  show OGo p e below s _ _ _ (T108.setTop (mkF m 10 #[.val (.ref ra), .val (.int xr), .val (.int xs), .val (.int ((xr * (3 : Int32)) + xs)), .unset, .unset, .unset] [(.ref ra)]))
  obtain ⟨T109, X109, e109, st109⟩ := getF X108 hx hZ hown (host := "") (Or.inl (hw _ (List.mem_of_getElem? (i := 21) rfl))) Via.refl e108 F_meetings (g := (mkF m 10 #[.val (.ref ra), .val (.int xr), .val (.int xs), .val (.int ((xr * (3 : Int32)) + xs)), .unset, .unset, .unset] [(.ref ra)])) rfl rfl (hb hby d6_10)
  refine OGo.on st109 ?_
  show OGo p e below s _ _ _ (T109.setTop (mkF m 13 #[.val (.ref ra), .val (.int xr), .val (.int xs), .val (.int ((xr * (3 : Int32)) + xs)), .unset, .unset, .unset] [(.ref rm)]))
  refine OGo.on (fun t k => XS.iloadN X109.here hx rfl (hb hby d6_13) rfl k) ?_
  show OGo p e below s _ _ _ (T109.setTop (mkF m 14 #[.val (.ref ra), .val (.int xr), .val (.int xs), .val (.int ((xr * (3 : Int32)) + xs)), .unset, .unset, .unset] [(.int ((xr * (3 : Int32)) + xs)), (.ref rm)]))
  refine OGo.on (fun t k => XT.dup2 X109.here hx rfl (hb hby d6_14) rfl rfl rfl k) ?_
  show OGo p e below s _ _ _ (T109.setTop (mkF m 15 #[.val (.ref ra), .val (.int xr), .val (.int xs), .val (.int ((xr * (3 : Int32)) + xs)), .unset, .unset, .unset] [(.int ((xr * (3 : Int32)) + xs)), (.ref rm), (.int ((xr * (3 : Int32)) + xs)), (.ref rm)]))
  refine OGo.on (fun t k => OAL.ia X109 hx hZ e109 A_m qm (hb hby d6_15) k) ?_
  show OGo p e below s _ _ _ (T109.setTop (mkF m 16 #[.val (.ref ra), .val (.int xr), .val (.int xs), .val (.int ((xr * (3 : Int32)) + xs)), .unset, .unset, .unset] [(.int xm), (.int ((xr * (3 : Int32)) + xs)), (.ref rm)]))
  refine OGo.on (fun t k => own_dup_x2 X109 hx (hb hby d6_16) k) ?_
  show OGo p e below s _ _ _ (T109.setTop (mkF m 17 #[.val (.ref ra), .val (.int xr), .val (.int xs), .val (.int ((xr * (3 : Int32)) + xs)), .unset, .unset, .unset] [(.int xm), (.int ((xr * (3 : Int32)) + xs)), (.ref rm), (.int xm)]))
  refine OGo.on (fun t k => XS.iconst X109.here hx rfl (hb hby d6_17) k) ?_
  refine OGo.on (fun t k => XS.iadd X109.here hx rfl (hb hby d6_18) rfl k) ?_
  show OGo p e below s _ _ _ (T109.setTop (mkF m 19 #[.val (.ref ra), .val (.int xr), .val (.int xs), .val (.int ((xr * (3 : Int32)) + xs)), .unset, .unset, .unset] [(.int (xm + (1 : Int32))), (.int ((xr * (3 : Int32)) + xs)), (.ref rm), (.int xm)]))
  obtain ⟨T110, h110, X110, e110, W110, A110, st110⟩ := OAL.stI X109 hx hZ e109 A_m (j := ((xr * (3 : Int32)) + xs)) (x := (xm + (1 : Int32))) qm.1 (oat_lt qm) (Ls := #[.val (.ref ra), .val (.int xr), .val (.int xs), .val (.int ((xr * (3 : Int32)) + xs)), .unset, .unset, .unset]) (rest := [(.int xm)]) (hb hby d6_19)
  have f111 : Exa Z h110 ra "com/example/slotwright/slotwright/solver/Occupancy" := E_o.wr W110
  have f112 : Fld Z h110 ra "com/example/slotwright/slotwright/solver/Occupancy" "clashing" "[I" (.ref rk) := F_clashing.other W110 (Or.inl hD.2.2.2.2.2.1)
  have f113 : Fld Z h110 ra "com/example/slotwright/slotwright/solver/Occupancy" "slots" "I" (.int (3 : Int32)) := F_slots.other W110 (Or.inl hD.2.2.2.2.2.1)
  have f114 : Fld Z h110 ra "com/example/slotwright/slotwright/solver/Occupancy" "meetings" "[I" (.ref rm) := F_meetings.other W110 (Or.inl hD.2.2.2.2.2.1)
  have f115 : Fld Z h110 ra "com/example/slotwright/slotwright/solver/Occupancy" "closed" "[Z" (.ref rc) := F_closed.other W110 (Or.inl hD.2.2.2.2.2.1)
  have f116 : Fld Z h110 ra "com/example/slotwright/slotwright/solver/Occupancy" "weights" "[I" (.ref rw) := F_weights.other W110 (Or.inl hD.2.2.2.2.2.1)
  have f117 : Fld Z h110 ra "com/example/slotwright/slotwright/solver/Occupancy" "listed" "[Z" (.ref rl) := F_listed.other W110 (Or.inl hD.2.2.2.2.2.1)
  have f118 : Fld Z h110 ra "com/example/slotwright/slotwright/solver/Occupancy" "clashingCount" "I" (.int cc) := F_clashingCount.other W110 (Or.inl hD.2.2.2.2.2.1)
  have f119 : Fld Z h110 ra "com/example/slotwright/slotwright/solver/Occupancy" "weighted" "J" (.long wd) := F_weighted.other W110 (Or.inl hD.2.2.2.2.2.1)
  have f120 : OAL Z h110 rw .int Wt := A_w.other W110 (Ne.symm hD.2.2.2.2.2.2.2.2.2.2.1)
  have f121 : OAL Z h110 rc .boolean Cl := A_c.other W110 (Ne.symm hD.2.2.2.2.2.2.2.2.2.2.2.1)
  have f122 : OAL Z h110 rl .boolean Li := A_l.other W110 (Ne.symm hD.2.2.2.2.2.2.2.2.2.2.2.2.1)
  have f123 : OAL Z h110 rk .int Ca := A_k.other W110 (Ne.symm hD.2.2.2.2.2.2.2.2.2.2.2.2.2.1)
  have Z124 : n0 ≤ h110.size := Nat.le_trans Z0 (Nat.le_of_eq W110.size.symm)
  have N125 := Fr.snoc X110 N0 hD.2.1
  obtain ⟨Lh126, Xh126, Nh126⟩ := own_hide X110 N125
  have V110 : OAL Z h110 rm .int (M.set ((xr * (3 : Int32)) + xs).toNatClampNeg (xm + (1 : Int32))) := A110
  refine OGo.on st110 ?_
  show OGo p e below s _ _ _ (T110.setTop (mkF m 20 #[.val (.ref ra), .val (.int xr), .val (.int xs), .val (.int ((xr * (3 : Int32)) + xs)), .unset, .unset, .unset] [(.int xm)]))
  have J : ∀ (x4 : Int32), OGo p e below s (Q_own_addB Z ra rm rw rc rl rk M Wt Cl Li Ca cc xr xs xw xm xc xt h0 n0) ({ frames := 1, cells := 0, slots := 0, locals := 16 } : Room).cells ({ frames := 1, cells := 0, slots := 0, locals := 16 } : Room).slots (T110.setTop (mkF m 30 #[.val (.ref ra), .val (.int xr), .val (.int xs), .val (.int ((xr * (3 : Int32)) + xs)), .val (.int x4), .unset, .unset] [])) := by
    intro x4
    show OGo p e below s _ _ _ (T110.setTop (mkF m 30 #[.val (.ref ra), .val (.int xr), .val (.int xs), .val (.int ((xr * (3 : Int32)) + xs)), .val (.int x4), .unset, .unset] []))
    refine OGo.on (fun t k => XS.aloadN Xh126.here hx rfl (hb hby d6_30) rfl rfl k) ?_
    refine OGo.on (fun t k => XS.iloadN Xh126.here hx rfl (hb hby d6_31) rfl k) ?_
    refine OGo.on (fun t k => XS.iloadN Xh126.here hx rfl (hb hby d6_32) rfl k) ?_
    refine OGo.on (fun t k => XS.iconst Xh126.here hx rfl (hb hby d6_33) k) ?_
    show OGo p e below s _ _ _ (T110.setTop (mkF m 34 #[.val (.ref ra), .val (.int xr), .val (.int xs), .val (.int ((xr * (3 : Int32)) + xs)), .val (.int x4), .unset, .unset] [(.int (1 : Int32)), (.int xs), (.int xr), (.ref ra)]))
    obtain ⟨cq127, kq127, q127a, q127b, q127c⟩ := isOf hZ e110 f111
    obtain ⟨_, _, ⟨T127, L127, k127, n127⟩, -, X127, ⟨Lc127, hQ127, l127, y127, z127⟩, st127⟩ := Xh126.virtualBack hx (y := (⟨"com/example/slotwright/slotwright/solver/Occupancy", "clashes", "(III)J"⟩ : MethodName)) (z := (⟨"com/example/slotwright/slotwright/solver/Occupancy", "clashes", "(III)J"⟩ : MethodName)) hown (mvT hZ (hw _ (List.mem_of_getElem? (i := 41) rfl))) (mvT hZ (hw _ (List.mem_of_getElem? (i := 42) rfl))) (notFace_of_selects (args := #[]) (mvT hZ (hw _ (List.mem_of_getElem? (i := 44) rfl)))) (mvT hZ (hw _ (List.mem_of_getElem? (i := 44) rfl))) (mvT hZ (hw _ (List.mem_of_getElem? (i := 43) rfl))) (by decide) (backOf (W := 0) (own_mcl l Z a0 hw [] ra rm rw rc rl rk (M.set ((xr * (3 : Int32)) + xs).toNatClampNeg (xm + 1)) Wt Cl Li Ca cc xr xs (1 : Int32) xw (xm + 1) xc h110 n0 Z124 hD ⟨f111, f112, f113, f114, f115, f116, f117, f118, ⟨_, f119⟩, V110, f120, f121, f122, f123⟩ qw (oat_same qm _) qc) hZ (hw _ (List.mem_of_getElem? (i := 45) rfl)) (hw _ (List.mem_of_getElem? (i := 4) rfl)) (by decide) (by decide)) q127a q127c (g := (mkF m 34 #[.val (.ref ra), .val (.int xr), .val (.int xs), .val (.int ((xr * (3 : Int32)) + xs)), .val (.int x4), .unset, .unset] [(.int (1 : Int32)), (.int xs), (.int xr), (.ref ra)])) rfl (by rw [hml]; rfl) (Steps.refl _) (argsL := [(.int xr), (.int xs), (.int (1 : Int32))]) (rest := []) (lenOf own_pd0 rfl) rfl (by show 2 * 0 + _ ≤ _; exact Nat.le_of_eq rfl) (hb hby d6_34) (fun _ _ => ⟨rfl, e110, (by decide : 0 + 0 ≤ _), (by decide : 0 + 0 ≤ _)⟩)
    dsimp only [Pt.U, Pt.locs, Pt.cells, Pt.slots] at X127 l127 y127 z127 st127 hQ127
    subst l127 y127 z127
    obtain ⟨rfl, N127q, e127⟩ := hQ127
    have N127 := Fr.app Nh126 N127q
    obtain ⟨Lh128, Xh128, Nh128⟩ := own_hide X127 N127
    refine OGo.on (fun t k => st127.trans k) ?_
    show OGo p e below s _ _ _ (T127.setTop (mkF m 37 #[.val (.ref ra), .val (.int xr), .val (.int xs), .val (.int ((xr * (3 : Int32)) + xs)), .val (.int x4), .unset, .unset] [(.long (own_cl xw (xm + 1) 1 xc))]))
    refine OGo.on (fun t k => XS.lstore Xh128.here hx rfl (hb hby d6_37) rfl (l' := #[.val (.ref ra), .val (.int xr), .val (.int xs), .val (.int ((xr * (3 : Int32)) + xs)), .val (.int x4), .val (.long (own_cl xw (xm + 1) 1 xc)), .second]) rfl k) ?_
    refine OGo.on (fun t k => XS.aloadN Xh128.here hx rfl (hb hby d6_39) rfl rfl k) ?_
    refine OGo.on (fun t k => XS.dup Xh128.here hx rfl (hb hby d6_40) rfl rfl k) ?_
    show OGo p e below s _ _ _ (T127.setTop (mkF m 41 #[.val (.ref ra), .val (.int xr), .val (.int xs), .val (.int ((xr * (3 : Int32)) + xs)), .val (.int x4), .val (.long (own_cl xw (xm + 1) 1 xc)), .second] [(.ref ra), (.ref ra)]))
    obtain ⟨T129, X129, e129, st129⟩ := getF Xh128 hx hZ hown (host := "") (Or.inl (hw _ (List.mem_of_getElem? (i := 46) rfl))) Via.refl e127 f119 (g := (mkF m 41 #[.val (.ref ra), .val (.int xr), .val (.int xs), .val (.int ((xr * (3 : Int32)) + xs)), .val (.int x4), .val (.long (own_cl xw (xm + 1) 1 xc)), .second] [(.ref ra), (.ref ra)])) rfl rfl (hb hby d6_41)
    refine OGo.on st129 ?_
    show OGo p e below s _ _ _ (T129.setTop (mkF m 44 #[.val (.ref ra), .val (.int xr), .val (.int xs), .val (.int ((xr * (3 : Int32)) + xs)), .val (.int x4), .val (.long (own_cl xw (xm + 1) 1 xc)), .second] [(.long wd), (.ref ra)]))
    refine OGo.on (fun t k => XS.lload X129.here hx rfl (hb hby d6_44) rfl k) ?_
    refine OGo.on (fun t k => XS.ladd X129.here hx rfl (hb hby d6_46) rfl k) ?_
    show OGo p e below s _ _ _ (T129.setTop (mkF m 47 #[.val (.ref ra), .val (.int xr), .val (.int xs), .val (.int ((xr * (3 : Int32)) + xs)), .val (.int x4), .val (.long (own_cl xw (xm + 1) 1 xc)), .second] [(.long (wd + (own_cl xw (xm + 1) 1 xc))), (.ref ra)]))
    obtain ⟨T130, h130, X130, e130, W130, st130⟩ := putF X129 hx hZ hown (host := "") (Or.inl (hw _ (List.mem_of_getElem? (i := 46) rfl))) Via.refl e129 f119 f111 (Or.inl (hw _ (List.mem_of_getElem? (i := 47) rfl))) (hw _ (List.mem_of_getElem? (i := 3) rfl)) (ty := .long) (by decide) rfl rfl (g := (mkF m 47 #[.val (.ref ra), .val (.int xr), .val (.int xs), .val (.int ((xr * (3 : Int32)) + xs)), .val (.int x4), .val (.long (own_cl xw (xm + 1) 1 xc)), .second] [(.long (wd + (own_cl xw (xm + 1) 1 xc))), (.ref ra)])) rfl rfl (hb hby d6_47)
    have f131 : Exa Z h130 ra "com/example/slotwright/slotwright/solver/Occupancy" := f111.wr W130
    have f132 : Fld Z h130 ra "com/example/slotwright/slotwright/solver/Occupancy" "clashing" "[I" (.ref rk) := f112.other W130 (Or.inr (slot_ne (Or.inl (hw _ (List.mem_of_getElem? (i := 13) rfl))) (Or.inl (hw _ (List.mem_of_getElem? (i := 47) rfl))) (by decide) (t := (.array .int)) (t' := .long) (by decide) (by decide)))
    have f133 : Fld Z h130 ra "com/example/slotwright/slotwright/solver/Occupancy" "slots" "I" (.int (3 : Int32)) := f113.other W130 (Or.inr (slot_ne (Or.inr (hw _ (List.mem_of_getElem? (i := 15) rfl))) (Or.inl (hw _ (List.mem_of_getElem? (i := 47) rfl))) (by decide) (t := .int) (t' := .long) (by decide) (by decide)))
    have f134 : Fld Z h130 ra "com/example/slotwright/slotwright/solver/Occupancy" "meetings" "[I" (.ref rm) := f114.other W130 (Or.inr (slot_ne (Or.inr (hw _ (List.mem_of_getElem? (i := 22) rfl))) (Or.inl (hw _ (List.mem_of_getElem? (i := 47) rfl))) (by decide) (t := (.array .int)) (t' := .long) (by decide) (by decide)))
    have f135 : Fld Z h130 ra "com/example/slotwright/slotwright/solver/Occupancy" "closed" "[Z" (.ref rc) := f115.other W130 (Or.inr (slot_ne (Or.inr (hw _ (List.mem_of_getElem? (i := 24) rfl))) (Or.inl (hw _ (List.mem_of_getElem? (i := 47) rfl))) (by decide) (t := (.array .boolean)) (t' := .long) (by decide) (by decide)))
    have f136 : Fld Z h130 ra "com/example/slotwright/slotwright/solver/Occupancy" "weights" "[I" (.ref rw) := f116.other W130 (Or.inr (slot_ne (Or.inr (hw _ (List.mem_of_getElem? (i := 33) rfl))) (Or.inl (hw _ (List.mem_of_getElem? (i := 47) rfl))) (by decide) (t := (.array .int)) (t' := .long) (by decide) (by decide)))
    have f137 : Fld Z h130 ra "com/example/slotwright/slotwright/solver/Occupancy" "listed" "[Z" (.ref rl) := f117.other W130 (Or.inr (slot_ne (Or.inr (hw _ (List.mem_of_getElem? (i := 35) rfl))) (Or.inl (hw _ (List.mem_of_getElem? (i := 47) rfl))) (by decide) (t := (.array .boolean)) (t' := .long) (by decide) (by decide)))
    have f138 : Fld Z h130 ra "com/example/slotwright/slotwright/solver/Occupancy" "clashingCount" "I" (.int cc) := f118.other W130 (Or.inr (slot_ne (Or.inl (hw _ (List.mem_of_getElem? (i := 49) rfl))) (Or.inl (hw _ (List.mem_of_getElem? (i := 47) rfl))) (by decide) (t := .int) (t' := .long) (by decide) (by decide)))
    have f139 : OAL Z h130 rm .int (M.set ((xr * (3 : Int32)) + xs).toNatClampNeg (xm + (1 : Int32))) := V110.other W130 (Ne.symm hD.2.2.2.2.2.1)
    have f140 : OAL Z h130 rw .int Wt := f120.other W130 (Ne.symm hD.2.2.2.2.2.2.1)
    have f141 : OAL Z h130 rc .boolean Cl := f121.other W130 (Ne.symm hD.2.2.2.2.2.2.2.1)
    have f142 : OAL Z h130 rl .boolean Li := f122.other W130 (Ne.symm hD.2.2.2.2.2.2.2.2.1)
    have f143 : OAL Z h130 rk .int Ca := f123.other W130 (Ne.symm hD.2.2.2.2.2.2.2.2.2.1)
    have Z144 : n0 ≤ h130.size := Nat.le_trans Z124 (Nat.le_of_eq W130.size.symm)
    have N145 := Fr.snoc X130 Nh128 hD.1
    obtain ⟨Lh146, Xh146, Nh146⟩ := own_hide X130 N145
    have f147 : Fld Z h130 ra "com/example/slotwright/slotwright/solver/Occupancy" "weighted" "J" (.long (wd + (own_cl xw (xm + 1) 1 xc))) := f119.same W130
    refine OGo.on st130 ?_
    show OGo p e below s _ _ _ (T130.setTop (mkF m 50 #[.val (.ref ra), .val (.int xr), .val (.int xs), .val (.int ((xr * (3 : Int32)) + xs)), .val (.int x4), .val (.long (own_cl xw (xm + 1) 1 xc)), .second] []))
    refine OGo.on (fun t k => XS.lload Xh146.here hx rfl (hb hby d6_50) rfl k) ?_
    refine OGo.on (fun t k => XS.lconst Xh146.here hx rfl (hb hby d6_52) k) ?_
    refine OGo.on (fun t k => XS.lcmp Xh146.here hx rfl (hb hby d6_53) rfl k) ?_
    show OGo p e below s _ _ _ (T130.setTop (mkF m 54 #[.val (.ref ra), .val (.int xr), .val (.int xs), .val (.int ((xr * (3 : Int32)) + xs)), .val (.int x4), .val (.long (own_cl xw (xm + 1) 1 xc)), .second] [(.int (lcmpW (own_cl xw (xm + 1) 1 xc) (0 : Int64)))]))
    by_cases hc148 : (0 : Int64) < (own_cl xw (xm + 1) 1 xc)
    · refine OGo.on (fun t k => XS.ifNo Xh146.here hx rfl (hb hby d6_54) rfl (lc_tlt hc148).2.2.2 k) ?_
      show OGo p e below s _ _ _ (T130.setTop (mkF m 57 #[.val (.ref ra), .val (.int xr), .val (.int xs), .val (.int ((xr * (3 : Int32)) + xs)), .val (.int x4), .val (.long (own_cl xw (xm + 1) 1 xc)), .second] []))
      refine OGo.on (fun t k => XS.aloadN Xh146.here hx rfl (hb hby d6_57) rfl rfl k) ?_
      show OGo p e below s _ _ _ (T130.setTop (mkF m 58 #[.val (.ref ra), .val (.int xr), .val (.int xs), .val (.int ((xr * (3 : Int32)) + xs)), .val (.int x4), .val (.long (own_cl xw (xm + 1) 1 xc)), .second] [(.ref ra)]))
      obtain ⟨T149, X149, e149, st149⟩ := getF Xh146 hx hZ hown (host := "") (Or.inl (hw _ (List.mem_of_getElem? (i := 34) rfl))) Via.refl e130 f137 (g := (mkF m 58 #[.val (.ref ra), .val (.int xr), .val (.int xs), .val (.int ((xr * (3 : Int32)) + xs)), .val (.int x4), .val (.long (own_cl xw (xm + 1) 1 xc)), .second] [(.ref ra)])) rfl rfl (hb hby d6_58)
      refine OGo.on st149 ?_
      show OGo p e below s _ _ _ (T149.setTop (mkF m 61 #[.val (.ref ra), .val (.int xr), .val (.int xs), .val (.int ((xr * (3 : Int32)) + xs)), .val (.int x4), .val (.long (own_cl xw (xm + 1) 1 xc)), .second] [(.ref rl)]))
      refine OGo.on (fun t k => XS.iloadN X149.here hx rfl (hb hby d6_61) rfl k) ?_
      show OGo p e below s _ _ _ (T149.setTop (mkF m 62 #[.val (.ref ra), .val (.int xr), .val (.int xs), .val (.int ((xr * (3 : Int32)) + xs)), .val (.int x4), .val (.long (own_cl xw (xm + 1) 1 xc)), .second] [(.int ((xr * (3 : Int32)) + xs)), (.ref rl)]))
      refine OGo.on (fun t k => OAL.baZ X149 hx hZ e149 f142 qt (hb hby d6_62) k) ?_
      show OGo p e below s _ _ _ (T149.setTop (mkF m 63 #[.val (.ref ra), .val (.int xr), .val (.int xs), .val (.int ((xr * (3 : Int32)) + xs)), .val (.int x4), .val (.long (own_cl xw (xm + 1) 1 xc)), .second] [(.int xt)]))
      refine OGo.on (fun t k => XS.ifYes X149.here hx rfl (pc0 := 63) (pc' := 120) rfl (hb hby d6_63) rfl ((if0 _ _).trans (feq (hB.elim (fun q => absurd hc148 q) id)).2) (by decide) (by decide) k) ?_
      show OGo p e below s _ _ _ (T149.setTop (mkF m 120 #[.val (.ref ra), .val (.int xr), .val (.int xs), .val (.int ((xr * (3 : Int32)) + xs)), .val (.int x4), .val (.long (own_cl xw (xm + 1) 1 xc)), .second] []))
      refine OGo.on (fun t k => XS.iload X149.here hx rfl (hb hby d6_120) rfl k) ?_
      show OGo p e below s _ _ _ (T149.setTop (mkF m 122 #[.val (.ref ra), .val (.int xr), .val (.int xs), .val (.int ((xr * (3 : Int32)) + xs)), .val (.int x4), .val (.long (own_cl xw (xm + 1) 1 xc)), .second] [(.int x4)]))
      exact OGo.retI X149 hx hret hlk (hb hby d6_122) ⟨⟨_, rfl⟩, Nh146, by rw [e149]; exact Z144, by rw [e149]; exact ⟨f131, f132, f133, f134, f135, f136, f137, f138, ⟨_, f147⟩, f139, f140, f141, f142, f143⟩⟩ (by decide) (by decide)
    · refine OGo.on (fun t k => XS.ifYes Xh146.here hx rfl (pc0 := 54) (pc' := 120) rfl (hb hby d6_54) rfl (lc_flt hc148).2.2.2 (by decide) (by decide) k) ?_
      show OGo p e below s _ _ _ (T130.setTop (mkF m 120 #[.val (.ref ra), .val (.int xr), .val (.int xs), .val (.int ((xr * (3 : Int32)) + xs)), .val (.int x4), .val (.long (own_cl xw (xm + 1) 1 xc)), .second] []))
      refine OGo.on (fun t k => XS.iload Xh146.here hx rfl (hb hby d6_120) rfl k) ?_
      show OGo p e below s _ _ _ (T130.setTop (mkF m 122 #[.val (.ref ra), .val (.int xr), .val (.int xs), .val (.int ((xr * (3 : Int32)) + xs)), .val (.int x4), .val (.long (own_cl xw (xm + 1) 1 xc)), .second] [(.int x4)]))
      exact OGo.retI Xh146 hx hret hlk (hb hby d6_122) ⟨⟨_, rfl⟩, Nh146, by rw [e130]; exact Z144, by rw [e130]; exact ⟨f131, f132, f133, f134, f135, f136, f137, f138, ⟨_, f147⟩, f139, f140, f141, f142, f143⟩⟩ (by decide) (by decide)
  by_cases hc150 : (0 : Int32) < xm
  · refine OGo.on (fun t k => XS.ifNo Xh126.here hx rfl (hb hby d6_20) rfl ((if0 _ _).trans (tlt hc150).2.2.2) k) ?_
    show OGo p e below s _ _ _ (T110.setTop (mkF m 23 #[.val (.ref ra), .val (.int xr), .val (.int xs), .val (.int ((xr * (3 : Int32)) + xs)), .unset, .unset, .unset] []))
    refine OGo.on (fun t k => XS.iconst Xh126.here hx rfl (hb hby d6_23) k) ?_
    refine OGo.on (fun t k => XS.goto Xh126.here hx rfl (pc0 := 24) (pc' := 28) rfl (hb hby d6_24) (by decide) (by decide) k) ?_
    refine OGo.on (fun t k => XS.istore Xh126.here hx rfl (hb hby d6_28) rfl (l' := #[.val (.ref ra), .val (.int xr), .val (.int xs), .val (.int ((xr * (3 : Int32)) + xs)), .val (.int (1 : Int32)), .unset, .unset]) rfl k) ?_
    show OGo p e below s _ _ _ (T110.setTop (mkF m 30 #[.val (.ref ra), .val (.int xr), .val (.int xs), .val (.int ((xr * (3 : Int32)) + xs)), .val (.int (1 : Int32)), .unset, .unset] []))
    exact J _
  · refine OGo.on (fun t k => XS.ifYes Xh126.here hx rfl (pc0 := 20) (pc' := 27) rfl (hb hby d6_20) rfl ((if0 _ _).trans (flt hc150).2.2.2) (by decide) (by decide) k) ?_
    show OGo p e below s _ _ _ (T110.setTop (mkF m 27 #[.val (.ref ra), .val (.int xr), .val (.int xs), .val (.int ((xr * (3 : Int32)) + xs)), .unset, .unset, .unset] []))
    refine OGo.on (fun t k => XS.iconst Xh126.here hx rfl (hb hby d6_27) k) ?_
    refine OGo.on (fun t k => XS.istore Xh126.here hx rfl (hb hby d6_28) rfl (l' := #[.val (.ref ra), .val (.int xr), .val (.int xs), .val (.int ((xr * (3 : Int32)) + xs)), .val (.int (0 : Int32)), .unset, .unset]) rfl k) ?_
    show OGo p e below s _ _ _ (T110.setTop (mkF m 30 #[.val (.ref ra), .val (.int xr), .val (.int xs), .val (.int ((xr * (3 : Int32)) + xs)), .val (.int (0 : Int32)), .unset, .unset] []))
    exact J _
theorem ef_own_mmax (m : MethodId) (x0 : Int32) (x1 : Int32) : entryFrame m #[(.int x0), (.int x1)] 2 = mkF m 0 #[.val (.int x0), .val (.int x1)] [] := by first | (simp [entryFrame, mkF, argsToLocals, Value.category]; done) | rfl
theorem d9_0 : decode jdk_29_method_65_code 0 = .ok (.iload_n 0, 1) := by decide +kernel
theorem d9_1 : decode jdk_29_method_65_code 1 = .ok (.iload_n 1, 1) := by decide +kernel
theorem d9_2 : decode jdk_29_method_65_code 2 = .ok (.if_icmp .lt 7, 3) := by decide +kernel
theorem d9_5 : decode jdk_29_method_65_code 5 = .ok (.iload_n 0, 1) := by decide +kernel
theorem d9_6 : decode jdk_29_method_65_code 6 = .ok (.goto 4, 3) := by decide +kernel
theorem d9_9 : decode jdk_29_method_65_code 9 = .ok (.iload_n 1, 1) := by decide +kernel
theorem d9_10 : decode jdk_29_method_65_code 10 = .ok (.ireturn, 1) := by decide +kernel
set_option maxRecDepth 65536 in
set_option maxHeartbeats 40000000 in
theorem own_mmax (l : Launch) (Z : State) (a0 : Array Value) (hw : ∀ d ∈ tables_1, d.before a0 Z = true) (ws : List Jvm.Cond) (xa xb : Int32) (h0 : Heap) (n0 : Nat) (Z0 : n0 ≤ h0.size)  :
    MetFree l (⟨"java/lang/Math", "max", "(II)I"⟩ : MethodName) (head1 (Jvm.Cond.code (⟨"java/lang/Math", "max", "(II)I"⟩ : MethodName) jdk_29_method_65_code 2 (some .int) :: ws) ({ frames := 0, cells := 0, slots := 0, locals := 0 } : Room)) (fun a U => a = #[(.int xa), (.int xb)] ∧ Z.Warmed39 U.vm ∧ U.heap = h0) (fun _ _ _ _ _ => True) (fun _ U o U' => ∃ v L, o = .returned v ∧ (OPure n0 h0 (some (.int (own_max xa xb)))) v U'.heap L ∧ FrameEnd U o U' L ({ frames := 0, cells := 0, slots := 0, locals := 0 } : Room).cells ({ frames := 0, cells := 0, slots := 0, locals := 0 } : Room).slots) := by
  refine MetFree.of_bodySF (Jvm.Free.JP.mathPlain rfl (by decide +kernel)) hisR ?_
  intro p e s m args below meth c s₁ Bd hml0 hP hK
  obtain ⟨rfl, hZ, hh⟩ := hP
  have hx := Bd.exec
  have hby := Bd.bytes
  have hret := Bd.returns
  have hlk : meth.locks = false := Bd.notSynchronized
  have hml : c.maxLocals = 2 := hml0
  have hown : s.vm.findClass "java/lang/Math" = some m.cls := findClass_of_methodNamed Bd.named
  have hnm := (name_of_methodNamed Bd.named Bd.method).1
  have X0 : Stand p l e ({ frames := 0, cells := 0, slots := 0, locals := 0 } : Room) s m #[(.int xa), (.int xb)] below meth c s₁ [] 0 0 := Stand.of_body Bd
  have e0 : s₁.heap = h0 := by rw [← hh, Bd.state]; rfl
  have N0 := Fr.nil n0
  have pre0 : ∀ t, Steps p.tables e below (s₁.setTop (mkF m 0 #[.val (.int xa), .val (.int xb)] [])) t → Steps p.tables e below (s₁.setTop (entryFrame m #[(.int xa), (.int xb)] 2)) t := fun t k => castTop (ef_own_mmax m xa xb) k
  show OGo p e below s (OPure n0 h0 (some (.int (own_max xa xb)))) ({ frames := 0, cells := 0, slots := 0, locals := 0 } : Room).cells ({ frames := 0, cells := 0, slots := 0, locals := 0 } : Room).slots (s₁.setTop (entryFrame m #[(.int xa), (.int xb)] 2))
  refine OGo.on pre0 ?_
  show OGo p e below s _ _ _ (s₁.setTop (mkF m 0 #[.val (.int xa), .val (.int xb)] []))
  refine OGo.on (fun t k => XS.iloadN X0.here hx rfl (hb hby d9_0) rfl k) ?_
  refine OGo.on (fun t k => XS.iloadN X0.here hx rfl (hb hby d9_1) rfl k) ?_
  show OGo p e below s _ _ _ (s₁.setTop (mkF m 2 #[.val (.int xa), .val (.int xb)] [(.int xb), (.int xa)]))
  by_cases hc151 : xa < xb
  · refine OGo.on (fun t k => XS.icmpYes X0.here hx rfl (pc0 := 2) (pc' := 9) rfl (hb hby d9_2) rfl (tlt hc151).1 (by decide) (by decide) k) ?_
    show OGo p e below s _ _ _ (s₁.setTop (mkF m 9 #[.val (.int xa), .val (.int xb)] []))
    refine OGo.on (fun t k => XS.iloadN X0.here hx rfl (hb hby d9_9) rfl k) ?_
    show OGo p e below s _ _ _ (s₁.setTop (mkF m 10 #[.val (.int xa), .val (.int xb)] [(.int xb)]))
    exact OGo.retI X0 hx hret hlk (hb hby d9_10) (opI (by unfold own_max; rw [if_pos hc151]) N0 e0) (by decide) (by decide)
  · refine OGo.on (fun t k => XS.icmpNo X0.here hx rfl (hb hby d9_2) rfl (flt hc151).1 k) ?_
    show OGo p e below s _ _ _ (s₁.setTop (mkF m 5 #[.val (.int xa), .val (.int xb)] []))
    refine OGo.on (fun t k => XS.iloadN X0.here hx rfl (hb hby d9_5) rfl k) ?_
    refine OGo.on (fun t k => XS.goto X0.here hx rfl (pc0 := 6) (pc' := 10) rfl (hb hby d9_6) (by decide) (by decide) k) ?_
    show OGo p e below s _ _ _ (s₁.setTop (mkF m 10 #[.val (.int xa), .val (.int xb)] [(.int xa)]))
    exact OGo.retI X0 hx hret hlk (hb hby d9_10) (opI (by unfold own_max; rw [if_neg hc151]) N0 e0) (by decide) (by decide)
def Q_own_raise0 (Z : State) (ra rm rw rc rl rk : Addr) (M Wt Cl Li Ca : List Int32)  (h0 : Heap) (n0 : Nat) (v : Option Value) (h : Heap) (L : List Loc) : Prop := v = none ∧ Fr n0 L ∧ n0 ≤ h.size ∧ OCC Z h ra rm rw rc rl rk M Wt Cl Li Ca (0 : Int32)
theorem own_pd1 : parseMethodDescriptor "(II)I" = some ⟨[.int, .int], some .int⟩ := by decide +kernel
theorem ef_own_raise0 (m : MethodId) (x0 : Addr) : entryFrame m #[(.ref x0)] 5 = mkF m 0 #[.val (.ref x0), .unset, .unset, .unset, .unset] [] := by first | (simp [entryFrame, mkF, argsToLocals, Value.category]; done) | rfl
theorem d8_0 : decode prog_60_method_8_code 0 = .ok (.iconst 0, 1) := by decide +kernel
theorem d8_1 : decode prog_60_method_8_code 1 = .ok (.istore_n 1, 1) := by decide +kernel
theorem d8_2 : decode prog_60_method_8_code 2 = .ok (.iconst 0, 1) := by decide +kernel
theorem d8_3 : decode prog_60_method_8_code 3 = .ok (.istore_n 2, 1) := by decide +kernel
theorem d8_4 : decode prog_60_method_8_code 4 = .ok (.iload_n 2, 1) := by decide +kernel
theorem d8_5 : decode prog_60_method_8_code 5 = .ok (.aload_n 0, 1) := by decide +kernel
theorem d8_6 : decode prog_60_method_8_code 6 = .ok (.getfield 51, 3) := by decide +kernel
theorem d8_9 : decode prog_60_method_8_code 9 = .ok (.if_icmp .ge 97, 3) := by decide +kernel
theorem d8_106 : decode prog_60_method_8_code 106 = .ok (.aload_n 0, 1) := by decide +kernel
theorem d8_107 : decode prog_60_method_8_code 107 = .ok (.iload_n 1, 1) := by decide +kernel
theorem d8_108 : decode prog_60_method_8_code 108 = .ok (.putfield 51, 3) := by decide +kernel
theorem d8_111 : decode prog_60_method_8_code 111 = .ok (.return_, 1) := by decide +kernel
set_option maxRecDepth 65536 in
set_option maxHeartbeats 40000000 in
theorem own_raise0 (l : Launch) (Z : State) (a0 : Array Value) (hw : ∀ d ∈ tables_1, d.before a0 Z = true) (ws : List Jvm.Cond) (ra rm rw rc rl rk : Addr) (M Wt Cl Li Ca : List Int32)  (h0 : Heap) (n0 : Nat) (Z0 : n0 ≤ h0.size) (hD : OAD n0 ra rm rw rc rl rk) (O : OCC Z h0 ra rm rw rc rl rk M Wt Cl Li Ca (0 : Int32)) (hca : Ca.length = 16)  :
    MetFree l (⟨"com/example/slotwright/slotwright/solver/Occupancy", "raiseWeights", "()V"⟩ : MethodName) (head1 (Jvm.Cond.code (⟨"com/example/slotwright/slotwright/solver/Occupancy", "raiseWeights", "()V"⟩ : MethodName) prog_60_method_8_code 5 none :: ws) ({ frames := 0, cells := 0, slots := 0, locals := 0 } : Room)) (fun a U => a = #[(.ref ra)] ∧ Z.Warmed39 U.vm ∧ U.heap = h0) (fun _ _ _ _ _ => True) (fun _ U o U' => ∃ v L, o = .returned v ∧ (Q_own_raise0 Z ra rm rw rc rl rk M Wt Cl Li Ca h0 n0) v U'.heap L ∧ FrameEnd U o U' L ({ frames := 0, cells := 0, slots := 0, locals := 0 } : Room).cells ({ frames := 0, cells := 0, slots := 0, locals := 0 } : Room).slots) := by
  refine MetFree.of_bodySF (plainFor_of_name own_pn0) hisR ?_
  intro p e s m args below meth c s₁ Bd hml0 hP hK
  obtain ⟨rfl, hZ, hh⟩ := hP
  have hx := Bd.exec
  have hby := Bd.bytes
  have hret := Bd.returns
  have hlk : meth.locks = false := Bd.notSynchronized
  have hml : c.maxLocals = 5 := hml0
  have hown : s.vm.findClass "com/example/slotwright/slotwright/solver/Occupancy" = some m.cls := findClass_of_methodNamed Bd.named
  have hnm := (name_of_methodNamed Bd.named Bd.method).1
  have X0 : Stand p l e ({ frames := 0, cells := 0, slots := 0, locals := 0 } : Room) s m #[(.ref ra)] below meth c s₁ [] 0 0 := Stand.of_body Bd
  have e0 : s₁.heap = h0 := by rw [← hh, Bd.state]; rfl
  have N0 := Fr.nil n0
  have pre0 : ∀ t, Steps p.tables e below (s₁.setTop (mkF m 0 #[.val (.ref ra), .unset, .unset, .unset, .unset] [])) t → Steps p.tables e below (s₁.setTop (entryFrame m #[(.ref ra)] 5)) t := fun t k => castTop (ef_own_raise0 m ra) k
  show OGo p e below s (Q_own_raise0 Z ra rm rw rc rl rk M Wt Cl Li Ca h0 n0) ({ frames := 0, cells := 0, slots := 0, locals := 0 } : Room).cells ({ frames := 0, cells := 0, slots := 0, locals := 0 } : Room).slots (s₁.setTop (entryFrame m #[(.ref ra)] 5))
  refine OGo.on pre0 ?_
  show OGo p e below s _ _ _ (s₁.setTop (mkF m 0 #[.val (.ref ra), .unset, .unset, .unset, .unset] []))
  obtain ⟨E_o, F_clashing, F_slots, F_meetings, F_closed, F_weights, F_listed, F_clashingCount, ⟨wd, F_weighted⟩, A_m, A_w, A_c, A_l, A_k⟩ := O
  refine OGo.on (fun t k => XS.iconst X0.here hx rfl (hb hby d8_0) k) ?_
  refine OGo.on (fun t k => XS.istoreN X0.here hx rfl (hb hby d8_1) rfl (l' := #[.val (.ref ra), .val (.int (0 : Int32)), .unset, .unset, .unset]) rfl k) ?_
  refine OGo.on (fun t k => XS.iconst X0.here hx rfl (hb hby d8_2) k) ?_
  refine OGo.on (fun t k => XS.istoreN X0.here hx rfl (hb hby d8_3) rfl (l' := #[.val (.ref ra), .val (.int (0 : Int32)), .val (.int (0 : Int32)), .unset, .unset]) rfl k) ?_
  show OGo p e below s _ _ _ (s₁.setTop (mkF m 4 #[.val (.ref ra), .val (.int (0 : Int32)), .val (.int (0 : Int32)), .unset, .unset] []))
  refine OGo.on (fun t k => XS.iloadN X0.here hx rfl (hb hby d8_4) rfl k) ?_
  refine OGo.on (fun t k => XS.aloadN X0.here hx rfl (hb hby d8_5) rfl rfl k) ?_
  show OGo p e below s _ _ _ (s₁.setTop (mkF m 6 #[.val (.ref ra), .val (.int (0 : Int32)), .val (.int (0 : Int32)), .unset, .unset] [(.ref ra), (.int (0 : Int32))]))
  obtain ⟨T152, X152, e152, st152⟩ := getF X0 hx hZ hown (host := "") (Or.inl (hw _ (List.mem_of_getElem? (i := 48) rfl))) Via.refl e0 F_clashingCount (g := (mkF m 6 #[.val (.ref ra), .val (.int (0 : Int32)), .val (.int (0 : Int32)), .unset, .unset] [(.ref ra), (.int (0 : Int32))])) rfl rfl (hb hby d8_6)
  refine OGo.on st152 ?_
  show OGo p e below s _ _ _ (T152.setTop (mkF m 9 #[.val (.ref ra), .val (.int (0 : Int32)), .val (.int (0 : Int32)), .unset, .unset] [(.int (0 : Int32)), (.int (0 : Int32))]))
  refine OGo.on (fun t k => XS.icmpYes X152.here hx rfl (pc0 := 9) (pc' := 106) rfl (hb hby d8_9) rfl (flt (by decide)).2.1 (by decide) (by decide) k) ?_
  show OGo p e below s _ _ _ (T152.setTop (mkF m 106 #[.val (.ref ra), .val (.int (0 : Int32)), .val (.int (0 : Int32)), .unset, .unset] []))
  refine OGo.on (fun t k => XS.aloadN X152.here hx rfl (hb hby d8_106) rfl rfl k) ?_
  refine OGo.on (fun t k => XS.iloadN X152.here hx rfl (hb hby d8_107) rfl k) ?_
  show OGo p e below s _ _ _ (T152.setTop (mkF m 108 #[.val (.ref ra), .val (.int (0 : Int32)), .val (.int (0 : Int32)), .unset, .unset] [(.int (0 : Int32)), (.ref ra)]))
  obtain ⟨T153, h153, X153, e153, W153, st153⟩ := putF X152 hx hZ hown (host := "") (Or.inl (hw _ (List.mem_of_getElem? (i := 48) rfl))) Via.refl e152 F_clashingCount E_o (Or.inl (hw _ (List.mem_of_getElem? (i := 49) rfl))) (hw _ (List.mem_of_getElem? (i := 3) rfl)) (ty := .int) (by decide) rfl rfl (g := (mkF m 108 #[.val (.ref ra), .val (.int (0 : Int32)), .val (.int (0 : Int32)), .unset, .unset] [(.int (0 : Int32)), (.ref ra)])) rfl rfl (hb hby d8_108)
  have f154 : Exa Z h153 ra "com/example/slotwright/slotwright/solver/Occupancy" := E_o.wr W153
  have f155 : Fld Z h153 ra "com/example/slotwright/slotwright/solver/Occupancy" "clashing" "[I" (.ref rk) := F_clashing.other W153 (Or.inr (slot_ne (Or.inl (hw _ (List.mem_of_getElem? (i := 13) rfl))) (Or.inl (hw _ (List.mem_of_getElem? (i := 49) rfl))) (by decide) (t := (.array .int)) (t' := .int) (by decide) (by decide)))
  have f156 : Fld Z h153 ra "com/example/slotwright/slotwright/solver/Occupancy" "slots" "I" (.int (3 : Int32)) := F_slots.other W153 (Or.inr (slot_ne (Or.inr (hw _ (List.mem_of_getElem? (i := 15) rfl))) (Or.inl (hw _ (List.mem_of_getElem? (i := 49) rfl))) (by decide) (t := .int) (t' := .int) (by decide) (by decide)))
  have f157 : Fld Z h153 ra "com/example/slotwright/slotwright/solver/Occupancy" "meetings" "[I" (.ref rm) := F_meetings.other W153 (Or.inr (slot_ne (Or.inr (hw _ (List.mem_of_getElem? (i := 22) rfl))) (Or.inl (hw _ (List.mem_of_getElem? (i := 49) rfl))) (by decide) (t := (.array .int)) (t' := .int) (by decide) (by decide)))
  have f158 : Fld Z h153 ra "com/example/slotwright/slotwright/solver/Occupancy" "closed" "[Z" (.ref rc) := F_closed.other W153 (Or.inr (slot_ne (Or.inr (hw _ (List.mem_of_getElem? (i := 24) rfl))) (Or.inl (hw _ (List.mem_of_getElem? (i := 49) rfl))) (by decide) (t := (.array .boolean)) (t' := .int) (by decide) (by decide)))
  have f159 : Fld Z h153 ra "com/example/slotwright/slotwright/solver/Occupancy" "weights" "[I" (.ref rw) := F_weights.other W153 (Or.inr (slot_ne (Or.inr (hw _ (List.mem_of_getElem? (i := 33) rfl))) (Or.inl (hw _ (List.mem_of_getElem? (i := 49) rfl))) (by decide) (t := (.array .int)) (t' := .int) (by decide) (by decide)))
  have f160 : Fld Z h153 ra "com/example/slotwright/slotwright/solver/Occupancy" "listed" "[Z" (.ref rl) := F_listed.other W153 (Or.inr (slot_ne (Or.inr (hw _ (List.mem_of_getElem? (i := 35) rfl))) (Or.inl (hw _ (List.mem_of_getElem? (i := 49) rfl))) (by decide) (t := (.array .boolean)) (t' := .int) (by decide) (by decide)))
  have f161 : Fld Z h153 ra "com/example/slotwright/slotwright/solver/Occupancy" "weighted" "J" (.long wd) := F_weighted.other W153 (Or.inr (slot_ne (Or.inl (hw _ (List.mem_of_getElem? (i := 47) rfl))) (Or.inl (hw _ (List.mem_of_getElem? (i := 49) rfl))) (by decide) (t := .long) (t' := .int) (by decide) (by decide)))
  have f162 : OAL Z h153 rm .int M := A_m.other W153 (Ne.symm hD.2.2.2.2.2.1)
  have f163 : OAL Z h153 rw .int Wt := A_w.other W153 (Ne.symm hD.2.2.2.2.2.2.1)
  have f164 : OAL Z h153 rc .boolean Cl := A_c.other W153 (Ne.symm hD.2.2.2.2.2.2.2.1)
  have f165 : OAL Z h153 rl .boolean Li := A_l.other W153 (Ne.symm hD.2.2.2.2.2.2.2.2.1)
  have f166 : OAL Z h153 rk .int Ca := A_k.other W153 (Ne.symm hD.2.2.2.2.2.2.2.2.2.1)
  have Z167 : n0 ≤ h153.size := Nat.le_trans Z0 (Nat.le_of_eq W153.size.symm)
  have N168 := Fr.snoc X153 N0 hD.1
  obtain ⟨Lh169, Xh169, Nh169⟩ := own_hide X153 N168
  have f170 : Fld Z h153 ra "com/example/slotwright/slotwright/solver/Occupancy" "clashingCount" "I" (.int (0 : Int32)) := F_clashingCount.same W153
  refine OGo.on st153 ?_
  show OGo p e below s _ _ _ (T153.setTop (mkF m 111 #[.val (.ref ra), .val (.int (0 : Int32)), .val (.int (0 : Int32)), .unset, .unset] []))
  exact OGo.ret0 Xh169 hx hret hlk (hb hby d8_111) ⟨rfl, Nh169, by rw [e153]; exact Z167, by rw [e153]; exact ⟨f154, f155, f156, f157, f158, f159, f160, f170, ⟨_, f161⟩, f162, f163, f164, f165, f166⟩⟩ (by decide) (by decide)
def Q_own_raise1 (Z : State) (ra rm rw rc rl rk : Addr) (M Wt Cl Li Ca : List Int32) (y0 xm0 xc0 xw0 : Int32)  (h0 : Heap) (n0 : Nat) (v : Option Value) (h : Heap) (L : List Loc) : Prop := v = none ∧ Fr n0 L ∧ n0 ≤ h.size ∧ OCC Z h ra rm rw rc rl rk M (Wt.set y0.toNatClampNeg (xw0 + 1)) Cl Li (Ca.set (0 : Int32).toNatClampNeg y0) (1 : Int32)
theorem ef_own_raise1 (m : MethodId) (x0 : Addr) : entryFrame m #[(.ref x0)] 5 = mkF m 0 #[.val (.ref x0), .unset, .unset, .unset, .unset] [] := by first | (simp [entryFrame, mkF, argsToLocals, Value.category]; done) | rfl
theorem d8_12 : decode prog_60_method_8_code 12 = .ok (.aload_n 0, 1) := by decide +kernel
theorem d8_13 : decode prog_60_method_8_code 13 = .ok (.getfield 7, 3) := by decide +kernel
theorem d8_16 : decode prog_60_method_8_code 16 = .ok (.iload_n 2, 1) := by decide +kernel
theorem d8_17 : decode prog_60_method_8_code 17 = .ok (.iaload, 1) := by decide +kernel
theorem d8_18 : decode prog_60_method_8_code 18 = .ok (.istore_n 3, 1) := by decide +kernel
theorem d8_19 : decode prog_60_method_8_code 19 = .ok (.iconst 0, 1) := by decide +kernel
theorem d8_20 : decode prog_60_method_8_code 20 = .ok (.aload_n 0, 1) := by decide +kernel
theorem d8_21 : decode prog_60_method_8_code 21 = .ok (.getfield 23, 3) := by decide +kernel
theorem d8_24 : decode prog_60_method_8_code 24 = .ok (.iload_n 3, 1) := by decide +kernel
theorem d8_25 : decode prog_60_method_8_code 25 = .ok (.iaload, 1) := by decide +kernel
theorem d8_26 : decode prog_60_method_8_code 26 = .ok (.iconst 1, 1) := by decide +kernel
theorem d8_27 : decode prog_60_method_8_code 27 = .ok (.isub, 1) := by decide +kernel
theorem d8_28 : decode prog_60_method_8_code 28 = .ok (.invokestatic 60, 3) := by decide +kernel
theorem d8_31 : decode prog_60_method_8_code 31 = .ok (.aload_n 0, 1) := by decide +kernel
theorem d8_32 : decode prog_60_method_8_code 32 = .ok (.getfield 26, 3) := by decide +kernel
theorem d8_35 : decode prog_60_method_8_code 35 = .ok (.iload_n 3, 1) := by decide +kernel
theorem d8_36 : decode prog_60_method_8_code 36 = .ok (.baload, 1) := by decide +kernel
theorem d8_37 : decode prog_60_method_8_code 37 = .ok (.ifCond .eq 12, 3) := by decide +kernel
theorem d8_40 : decode prog_60_method_8_code 40 = .ok (.aload_n 0, 1) := by decide +kernel
theorem d8_41 : decode prog_60_method_8_code 41 = .ok (.getfield 23, 3) := by decide +kernel
theorem d8_44 : decode prog_60_method_8_code 44 = .ok (.iload_n 3, 1) := by decide +kernel
theorem d8_45 : decode prog_60_method_8_code 45 = .ok (.iaload, 1) := by decide +kernel
theorem d8_46 : decode prog_60_method_8_code 46 = .ok (.goto 4, 3) := by decide +kernel
theorem d8_49 : decode prog_60_method_8_code 49 = .ok (.iconst 0, 1) := by decide +kernel
theorem d8_50 : decode prog_60_method_8_code 50 = .ok (.iadd, 1) := by decide +kernel
theorem d8_51 : decode prog_60_method_8_code 51 = .ok (.istore 4, 2) := by decide +kernel
theorem d8_53 : decode prog_60_method_8_code 53 = .ok (.iload 4, 2) := by decide +kernel
theorem d8_55 : decode prog_60_method_8_code 55 = .ok (.ifCond .le 38, 3) := by decide +kernel
theorem d8_58 : decode prog_60_method_8_code 58 = .ok (.aload_n 0, 1) := by decide +kernel
theorem d8_59 : decode prog_60_method_8_code 59 = .ok (.getfield 34, 3) := by decide +kernel
theorem d8_62 : decode prog_60_method_8_code 62 = .ok (.iload_n 3, 1) := by decide +kernel
theorem d8_63 : decode prog_60_method_8_code 63 = .ok (.dup2, 1) := by decide +kernel
theorem d8_64 : decode prog_60_method_8_code 64 = .ok (.iaload, 1) := by decide +kernel
theorem d8_65 : decode prog_60_method_8_code 65 = .ok (.iconst 1, 1) := by decide +kernel
theorem d8_66 : decode prog_60_method_8_code 66 = .ok (.iadd, 1) := by decide +kernel
theorem d8_67 : decode prog_60_method_8_code 67 = .ok (.iastore, 1) := by decide +kernel
theorem d8_68 : decode prog_60_method_8_code 68 = .ok (.aload_n 0, 1) := by decide +kernel
theorem d8_69 : decode prog_60_method_8_code 69 = .ok (.dup, 1) := by decide +kernel
theorem d8_70 : decode prog_60_method_8_code 70 = .ok (.getfield 47, 3) := by decide +kernel
theorem d8_73 : decode prog_60_method_8_code 73 = .ok (.iload 4, 2) := by decide +kernel
theorem d8_75 : decode prog_60_method_8_code 75 = .ok (.i2l, 1) := by decide +kernel
theorem d8_76 : decode prog_60_method_8_code 76 = .ok (.ladd, 1) := by decide +kernel
theorem d8_77 : decode prog_60_method_8_code 77 = .ok (.putfield 47, 3) := by decide +kernel
theorem d8_80 : decode prog_60_method_8_code 80 = .ok (.aload_n 0, 1) := by decide +kernel
theorem d8_81 : decode prog_60_method_8_code 81 = .ok (.getfield 7, 3) := by decide +kernel
theorem d8_84 : decode prog_60_method_8_code 84 = .ok (.iload_n 1, 1) := by decide +kernel
theorem d8_85 : decode prog_60_method_8_code 85 = .ok (.iinc 1 1, 3) := by decide +kernel
theorem d8_88 : decode prog_60_method_8_code 88 = .ok (.iload_n 3, 1) := by decide +kernel
theorem d8_89 : decode prog_60_method_8_code 89 = .ok (.iastore, 1) := by decide +kernel
theorem d8_90 : decode prog_60_method_8_code 90 = .ok (.goto 10, 3) := by decide +kernel
theorem d8_100 : decode prog_60_method_8_code 100 = .ok (.iinc 2 1, 3) := by decide +kernel
theorem d8_103 : decode prog_60_method_8_code 103 = .ok (.goto (-99), 3) := by decide +kernel
set_option maxRecDepth 65536 in
set_option maxHeartbeats 40000000 in
theorem own_raise1 (l : Launch) (Z : State) (a0 : Array Value) (hw : ∀ d ∈ tables_1, d.before a0 Z = true) (ws : List Jvm.Cond) (ra rm rw rc rl rk : Addr) (M Wt Cl Li Ca : List Int32) (y0 xm0 xc0 xw0 : Int32)  (h0 : Heap) (n0 : Nat) (Z0 : n0 ≤ h0.size) (hD : OAD n0 ra rm rw rc rl rk) (O : OCC Z h0 ra rm rw rc rl rk M Wt Cl Li Ca (1 : Int32)) (hca : Ca.length = 16) (qa0 : OAt Ca (0 : Int32) y0) (qm0 : OAt M y0 xm0) (qc0 : OAt Cl y0 xc0) (qw0 : OAt Wt y0 xw0) (hz0 : 0 < own_cnt xm0 xc0)  :
    MetFree l (⟨"com/example/slotwright/slotwright/solver/Occupancy", "raiseWeights", "()V"⟩ : MethodName) (head1 (Jvm.Cond.code (⟨"com/example/slotwright/slotwright/solver/Occupancy", "raiseWeights", "()V"⟩ : MethodName) prog_60_method_8_code 5 none :: ws) ({ frames := 1, cells := 0, slots := 0, locals := 13 } : Room)) (fun a U => a = #[(.ref ra)] ∧ Z.Warmed39 U.vm ∧ U.heap = h0) (fun _ _ _ _ _ => True) (fun _ U o U' => ∃ v L, o = .returned v ∧ (Q_own_raise1 Z ra rm rw rc rl rk M Wt Cl Li Ca y0 xm0 xc0 xw0 h0 n0) v U'.heap L ∧ FrameEnd U o U' L ({ frames := 1, cells := 0, slots := 0, locals := 13 } : Room).cells ({ frames := 1, cells := 0, slots := 0, locals := 13 } : Room).slots) := by
  refine MetFree.of_bodySF (plainFor_of_name own_pn0) hisR ?_
  intro p e s m args below meth c s₁ Bd hml0 hP hK
  obtain ⟨rfl, hZ, hh⟩ := hP
  have hx := Bd.exec
  have hby := Bd.bytes
  have hret := Bd.returns
  have hlk : meth.locks = false := Bd.notSynchronized
  have hml : c.maxLocals = 5 := hml0
  have hown : s.vm.findClass "com/example/slotwright/slotwright/solver/Occupancy" = some m.cls := findClass_of_methodNamed Bd.named
  have hnm := (name_of_methodNamed Bd.named Bd.method).1
  have X0 : Stand p l e ({ frames := 1, cells := 0, slots := 0, locals := 13 } : Room) s m #[(.ref ra)] below meth c s₁ [] 0 0 := Stand.of_body Bd
  have e0 : s₁.heap = h0 := by rw [← hh, Bd.state]; rfl
  have N0 := Fr.nil n0
  have pre0 : ∀ t, Steps p.tables e below (s₁.setTop (mkF m 0 #[.val (.ref ra), .unset, .unset, .unset, .unset] [])) t → Steps p.tables e below (s₁.setTop (entryFrame m #[(.ref ra)] 5)) t := fun t k => castTop (ef_own_raise1 m ra) k
  show OGo p e below s (Q_own_raise1 Z ra rm rw rc rl rk M Wt Cl Li Ca y0 xm0 xc0 xw0 h0 n0) ({ frames := 1, cells := 0, slots := 0, locals := 13 } : Room).cells ({ frames := 1, cells := 0, slots := 0, locals := 13 } : Room).slots (s₁.setTop (entryFrame m #[(.ref ra)] 5))
  refine OGo.on pre0 ?_
  show OGo p e below s _ _ _ (s₁.setTop (mkF m 0 #[.val (.ref ra), .unset, .unset, .unset, .unset] []))
  obtain ⟨E_o, F_clashing, F_slots, F_meetings, F_closed, F_weights, F_listed, F_clashingCount, ⟨wd, F_weighted⟩, A_m, A_w, A_c, A_l, A_k⟩ := O
  refine OGo.on (fun t k => XS.iconst X0.here hx rfl (hb hby d8_0) k) ?_
  refine OGo.on (fun t k => XS.istoreN X0.here hx rfl (hb hby d8_1) rfl (l' := #[.val (.ref ra), .val (.int (0 : Int32)), .unset, .unset, .unset]) rfl k) ?_
  refine OGo.on (fun t k => XS.iconst X0.here hx rfl (hb hby d8_2) k) ?_
  refine OGo.on (fun t k => XS.istoreN X0.here hx rfl (hb hby d8_3) rfl (l' := #[.val (.ref ra), .val (.int (0 : Int32)), .val (.int (0 : Int32)), .unset, .unset]) rfl k) ?_
  show OGo p e below s _ _ _ (s₁.setTop (mkF m 4 #[.val (.ref ra), .val (.int (0 : Int32)), .val (.int (0 : Int32)), .unset, .unset] []))
  refine OGo.on (fun t k => XS.iloadN X0.here hx rfl (hb hby d8_4) rfl k) ?_
  refine OGo.on (fun t k => XS.aloadN X0.here hx rfl (hb hby d8_5) rfl rfl k) ?_
  show OGo p e below s _ _ _ (s₁.setTop (mkF m 6 #[.val (.ref ra), .val (.int (0 : Int32)), .val (.int (0 : Int32)), .unset, .unset] [(.ref ra), (.int (0 : Int32))]))
  obtain ⟨T171, X171, e171, st171⟩ := getF X0 hx hZ hown (host := "") (Or.inl (hw _ (List.mem_of_getElem? (i := 48) rfl))) Via.refl e0 F_clashingCount (g := (mkF m 6 #[.val (.ref ra), .val (.int (0 : Int32)), .val (.int (0 : Int32)), .unset, .unset] [(.ref ra), (.int (0 : Int32))])) rfl rfl (hb hby d8_6)
  refine OGo.on st171 ?_
  show OGo p e below s _ _ _ (T171.setTop (mkF m 9 #[.val (.ref ra), .val (.int (0 : Int32)), .val (.int (0 : Int32)), .unset, .unset] [(.int (1 : Int32)), (.int (0 : Int32))]))
  refine OGo.on (fun t k => XS.icmpNo X171.here hx rfl (hb hby d8_9) rfl (tlt (by decide)).2.1 k) ?_
  show OGo p e below s _ _ _ (T171.setTop (mkF m 12 #[.val (.ref ra), .val (.int (0 : Int32)), .val (.int (0 : Int32)), .unset, .unset] []))
  refine OGo.on (fun t k => XS.aloadN X171.here hx rfl (hb hby d8_12) rfl rfl k) ?_
  show OGo p e below s _ _ _ (T171.setTop (mkF m 13 #[.val (.ref ra), .val (.int (0 : Int32)), .val (.int (0 : Int32)), .unset, .unset] [(.ref ra)]))
  obtain ⟨T172, X172, e172, st172⟩ := getF X171 hx hZ hown (host := "") (Or.inl (hw _ (List.mem_of_getElem? (i := 12) rfl))) Via.refl e171 F_clashing (g := (mkF m 13 #[.val (.ref ra), .val (.int (0 : Int32)), .val (.int (0 : Int32)), .unset, .unset] [(.ref ra)])) rfl rfl (hb hby d8_13)
  refine OGo.on st172 ?_
  show OGo p e below s _ _ _ (T172.setTop (mkF m 16 #[.val (.ref ra), .val (.int (0 : Int32)), .val (.int (0 : Int32)), .unset, .unset] [(.ref rk)]))
  refine OGo.on (fun t k => XS.iloadN X172.here hx rfl (hb hby d8_16) rfl k) ?_
  show OGo p e below s _ _ _ (T172.setTop (mkF m 17 #[.val (.ref ra), .val (.int (0 : Int32)), .val (.int (0 : Int32)), .unset, .unset] [(.int (0 : Int32)), (.ref rk)]))
  refine OGo.on (fun t k => OAL.ia X172 hx hZ e172 A_k qa0 (hb hby d8_17) k) ?_
  show OGo p e below s _ _ _ (T172.setTop (mkF m 18 #[.val (.ref ra), .val (.int (0 : Int32)), .val (.int (0 : Int32)), .unset, .unset] [(.int y0)]))
  refine OGo.on (fun t k => XS.istoreN X172.here hx rfl (hb hby d8_18) rfl (l' := #[.val (.ref ra), .val (.int (0 : Int32)), .val (.int (0 : Int32)), .val (.int y0), .unset]) rfl k) ?_
  refine OGo.on (fun t k => XS.iconst X172.here hx rfl (hb hby d8_19) k) ?_
  refine OGo.on (fun t k => XS.aloadN X172.here hx rfl (hb hby d8_20) rfl rfl k) ?_
  show OGo p e below s _ _ _ (T172.setTop (mkF m 21 #[.val (.ref ra), .val (.int (0 : Int32)), .val (.int (0 : Int32)), .val (.int y0), .unset] [(.ref ra), (.int (0 : Int32))]))
  obtain ⟨T173, X173, e173, st173⟩ := getF X172 hx hZ hown (host := "") (Or.inl (hw _ (List.mem_of_getElem? (i := 21) rfl))) Via.refl e172 F_meetings (g := (mkF m 21 #[.val (.ref ra), .val (.int (0 : Int32)), .val (.int (0 : Int32)), .val (.int y0), .unset] [(.ref ra), (.int (0 : Int32))])) rfl rfl (hb hby d8_21)
  refine OGo.on st173 ?_
  show OGo p e below s _ _ _ (T173.setTop (mkF m 24 #[.val (.ref ra), .val (.int (0 : Int32)), .val (.int (0 : Int32)), .val (.int y0), .unset] [(.ref rm), (.int (0 : Int32))]))
  refine OGo.on (fun t k => XS.iloadN X173.here hx rfl (hb hby d8_24) rfl k) ?_
  show OGo p e below s _ _ _ (T173.setTop (mkF m 25 #[.val (.ref ra), .val (.int (0 : Int32)), .val (.int (0 : Int32)), .val (.int y0), .unset] [(.int y0), (.ref rm), (.int (0 : Int32))]))
  refine OGo.on (fun t k => OAL.ia X173 hx hZ e173 A_m qm0 (hb hby d8_25) k) ?_
  show OGo p e below s _ _ _ (T173.setTop (mkF m 26 #[.val (.ref ra), .val (.int (0 : Int32)), .val (.int (0 : Int32)), .val (.int y0), .unset] [(.int xm0), (.int (0 : Int32))]))
  refine OGo.on (fun t k => XS.iconst X173.here hx rfl (hb hby d8_26) k) ?_
  refine OGo.on (fun t k => XS.isub X173.here hx rfl (hb hby d8_27) rfl k) ?_
  show OGo p e below s _ _ _ (T173.setTop (mkF m 28 #[.val (.ref ra), .val (.int (0 : Int32)), .val (.int (0 : Int32)), .val (.int y0), .unset] [(.int (xm0 - (1 : Int32))), (.int (0 : Int32))]))
  obtain ⟨_, _, ⟨T174, L174, k174, n174⟩, -, X174, ⟨Lc174, hQ174, l174, y174, z174⟩, st174⟩ := Jvm.LawKit.callS X173 hx (y := (⟨"java/lang/Math", "max", "(II)I"⟩ : MethodName)) hown (mvT hZ (hw _ (List.mem_of_getElem? (i := 55) rfl))) (mvT hZ (hw _ (List.mem_of_getElem? (i := 56) rfl))) (mvT hZ (hw _ (List.mem_of_getElem? (i := 57) rfl))) (mvT hZ (hw _ (List.mem_of_getElem? (i := 58) rfl))) (by decide) (backOf (W := 0) (own_mmax l Z a0 hw [] (0 : Int32) (xm0 - (1 : Int32)) h0 n0 Z0) hZ (hw _ (List.mem_of_getElem? (i := 58) rfl)) (hw _ (List.mem_of_getElem? (i := 57) rfl)) (by decide) (by decide)) (g := (mkF m 28 #[.val (.ref ra), .val (.int (0 : Int32)), .val (.int (0 : Int32)), .val (.int y0), .unset] [(.int (xm0 - (1 : Int32))), (.int (0 : Int32))])) rfl (by rw [hml]; rfl) (argsL := [(.int (0 : Int32)), (.int (xm0 - (1 : Int32)))]) (rest := []) (lenOf own_pd1 rfl) rfl (by show 2 * 0 + _ ≤ _; exact Nat.le_of_eq rfl) (hb hby d8_28) (fun _ _ => ⟨rfl, e173, (by decide : 0 + 0 ≤ _), (by decide : 0 + 0 ≤ _)⟩)
  dsimp only [Pt.U, Pt.locs, Pt.cells, Pt.slots] at X174 l174 y174 z174 st174 hQ174
  subst l174 y174 z174
  obtain ⟨rfl, N174q, e174⟩ := hQ174
  have N174 := Fr.app N0 N174q
  obtain ⟨Lh175, Xh175, Nh175⟩ := own_hide X174 N174
  refine OGo.on st174 ?_
  show OGo p e below s _ _ _ (T174.setTop (mkF m 31 #[.val (.ref ra), .val (.int (0 : Int32)), .val (.int (0 : Int32)), .val (.int y0), .unset] [(.int (own_max (0 : Int32) (xm0 - (1 : Int32))))]))
  refine OGo.on (fun t k => XS.aloadN Xh175.here hx rfl (hb hby d8_31) rfl rfl k) ?_
  show OGo p e below s _ _ _ (T174.setTop (mkF m 32 #[.val (.ref ra), .val (.int (0 : Int32)), .val (.int (0 : Int32)), .val (.int y0), .unset] [(.ref ra), (.int (own_max (0 : Int32) (xm0 - (1 : Int32))))]))
  obtain ⟨T176, X176, e176, st176⟩ := getF Xh175 hx hZ hown (host := "") (Or.inl (hw _ (List.mem_of_getElem? (i := 23) rfl))) Via.refl e174 F_closed (g := (mkF m 32 #[.val (.ref ra), .val (.int (0 : Int32)), .val (.int (0 : Int32)), .val (.int y0), .unset] [(.ref ra), (.int (own_max (0 : Int32) (xm0 - (1 : Int32))))])) rfl rfl (hb hby d8_32)
  refine OGo.on st176 ?_
  show OGo p e below s _ _ _ (T176.setTop (mkF m 35 #[.val (.ref ra), .val (.int (0 : Int32)), .val (.int (0 : Int32)), .val (.int y0), .unset] [(.ref rc), (.int (own_max (0 : Int32) (xm0 - (1 : Int32))))]))
  refine OGo.on (fun t k => XS.iloadN X176.here hx rfl (hb hby d8_35) rfl k) ?_
  show OGo p e below s _ _ _ (T176.setTop (mkF m 36 #[.val (.ref ra), .val (.int (0 : Int32)), .val (.int (0 : Int32)), .val (.int y0), .unset] [(.int y0), (.ref rc), (.int (own_max (0 : Int32) (xm0 - (1 : Int32))))]))
  refine OGo.on (fun t k => OAL.baZ X176 hx hZ e176 A_c qc0 (hb hby d8_36) k) ?_
  show OGo p e below s _ _ _ (T176.setTop (mkF m 37 #[.val (.ref ra), .val (.int (0 : Int32)), .val (.int (0 : Int32)), .val (.int y0), .unset] [(.int xc0), (.int (own_max (0 : Int32) (xm0 - (1 : Int32))))]))
  by_cases hc177 : xc0 = (0 : Int32)
  · refine OGo.on (fun t k => XS.ifYes X176.here hx rfl (pc0 := 37) (pc' := 49) rfl (hb hby d8_37) rfl ((if0 _ _).trans (teq hc177).1) (by decide) (by decide) k) ?_
    show OGo p e below s _ _ _ (T176.setTop (mkF m 49 #[.val (.ref ra), .val (.int (0 : Int32)), .val (.int (0 : Int32)), .val (.int y0), .unset] [(.int (own_max (0 : Int32) (xm0 - (1 : Int32))))]))
    refine OGo.on (fun t k => XS.iconst X176.here hx rfl (hb hby d8_49) k) ?_
    refine OGo.on (fun t k => XS.iadd X176.here hx rfl (hb hby d8_50) rfl k) ?_
    refine OGo.on (fun t k => XS.istore X176.here hx rfl (hb hby d8_51) rfl (l' := #[.val (.ref ra), .val (.int (0 : Int32)), .val (.int (0 : Int32)), .val (.int y0), .val (.int ((own_max (0 : Int32) (xm0 - (1 : Int32))) + (0 : Int32)))]) rfl k) ?_
    refine OGo.on (fun t k => XS.iload X176.here hx rfl (hb hby d8_53) rfl k) ?_
    show OGo p e below s _ _ _ (T176.setTop (mkF m 55 #[.val (.ref ra), .val (.int (0 : Int32)), .val (.int (0 : Int32)), .val (.int y0), .val (.int ((own_max (0 : Int32) (xm0 - (1 : Int32))) + (0 : Int32)))] [(.int ((own_max (0 : Int32) (xm0 - (1 : Int32))) + (0 : Int32)))]))
    refine OGo.on (fun t k => XS.ifNo X176.here hx rfl (hb hby d8_55) rfl ((if0 _ _).trans (tlt (by have z := hz0; unfold own_cnt at z; rw [if_pos hc177] at z; exact z)).2.2.2) k) ?_
    show OGo p e below s _ _ _ (T176.setTop (mkF m 58 #[.val (.ref ra), .val (.int (0 : Int32)), .val (.int (0 : Int32)), .val (.int y0), .val (.int ((own_max (0 : Int32) (xm0 - (1 : Int32))) + (0 : Int32)))] []))
    refine OGo.on (fun t k => XS.aloadN X176.here hx rfl (hb hby d8_58) rfl rfl k) ?_
    show OGo p e below s _ _ _ (T176.setTop (mkF m 59 #[.val (.ref ra), .val (.int (0 : Int32)), .val (.int (0 : Int32)), .val (.int y0), .val (.int ((own_max (0 : Int32) (xm0 - (1 : Int32))) + (0 : Int32)))] [(.ref ra)]))
    obtain ⟨T178, X178, e178, st178⟩ := getF X176 hx hZ hown (host := "") (Or.inl (hw _ (List.mem_of_getElem? (i := 32) rfl))) Via.refl e176 F_weights (g := (mkF m 59 #[.val (.ref ra), .val (.int (0 : Int32)), .val (.int (0 : Int32)), .val (.int y0), .val (.int ((own_max (0 : Int32) (xm0 - (1 : Int32))) + (0 : Int32)))] [(.ref ra)])) rfl rfl (hb hby d8_59)
    refine OGo.on st178 ?_
    show OGo p e below s _ _ _ (T178.setTop (mkF m 62 #[.val (.ref ra), .val (.int (0 : Int32)), .val (.int (0 : Int32)), .val (.int y0), .val (.int ((own_max (0 : Int32) (xm0 - (1 : Int32))) + (0 : Int32)))] [(.ref rw)]))
    refine OGo.on (fun t k => XS.iloadN X178.here hx rfl (hb hby d8_62) rfl k) ?_
    show OGo p e below s _ _ _ (T178.setTop (mkF m 63 #[.val (.ref ra), .val (.int (0 : Int32)), .val (.int (0 : Int32)), .val (.int y0), .val (.int ((own_max (0 : Int32) (xm0 - (1 : Int32))) + (0 : Int32)))] [(.int y0), (.ref rw)]))
    refine OGo.on (fun t k => XT.dup2 X178.here hx rfl (hb hby d8_63) rfl rfl rfl k) ?_
    show OGo p e below s _ _ _ (T178.setTop (mkF m 64 #[.val (.ref ra), .val (.int (0 : Int32)), .val (.int (0 : Int32)), .val (.int y0), .val (.int ((own_max (0 : Int32) (xm0 - (1 : Int32))) + (0 : Int32)))] [(.int y0), (.ref rw), (.int y0), (.ref rw)]))
    refine OGo.on (fun t k => OAL.ia X178 hx hZ e178 A_w qw0 (hb hby d8_64) k) ?_
    show OGo p e below s _ _ _ (T178.setTop (mkF m 65 #[.val (.ref ra), .val (.int (0 : Int32)), .val (.int (0 : Int32)), .val (.int y0), .val (.int ((own_max (0 : Int32) (xm0 - (1 : Int32))) + (0 : Int32)))] [(.int xw0), (.int y0), (.ref rw)]))
    refine OGo.on (fun t k => XS.iconst X178.here hx rfl (hb hby d8_65) k) ?_
    refine OGo.on (fun t k => XS.iadd X178.here hx rfl (hb hby d8_66) rfl k) ?_
    show OGo p e below s _ _ _ (T178.setTop (mkF m 67 #[.val (.ref ra), .val (.int (0 : Int32)), .val (.int (0 : Int32)), .val (.int y0), .val (.int ((own_max (0 : Int32) (xm0 - (1 : Int32))) + (0 : Int32)))] [(.int (xw0 + (1 : Int32))), (.int y0), (.ref rw)]))
    obtain ⟨T179, h179, X179, e179, W179, A179, st179⟩ := OAL.stI X178 hx hZ e178 A_w (j := y0) (x := (xw0 + (1 : Int32))) qw0.1 (oat_lt qw0) (Ls := #[.val (.ref ra), .val (.int (0 : Int32)), .val (.int (0 : Int32)), .val (.int y0), .val (.int ((own_max (0 : Int32) (xm0 - (1 : Int32))) + (0 : Int32)))]) (rest := []) (hb hby d8_67)
    have f180 : Exa Z h179 ra "com/example/slotwright/slotwright/solver/Occupancy" := E_o.wr W179
    have f181 : Fld Z h179 ra "com/example/slotwright/slotwright/solver/Occupancy" "clashing" "[I" (.ref rk) := F_clashing.other W179 (Or.inl hD.2.2.2.2.2.2.1)
    have f182 : Fld Z h179 ra "com/example/slotwright/slotwright/solver/Occupancy" "slots" "I" (.int (3 : Int32)) := F_slots.other W179 (Or.inl hD.2.2.2.2.2.2.1)
    have f183 : Fld Z h179 ra "com/example/slotwright/slotwright/solver/Occupancy" "meetings" "[I" (.ref rm) := F_meetings.other W179 (Or.inl hD.2.2.2.2.2.2.1)
    have f184 : Fld Z h179 ra "com/example/slotwright/slotwright/solver/Occupancy" "closed" "[Z" (.ref rc) := F_closed.other W179 (Or.inl hD.2.2.2.2.2.2.1)
    have f185 : Fld Z h179 ra "com/example/slotwright/slotwright/solver/Occupancy" "weights" "[I" (.ref rw) := F_weights.other W179 (Or.inl hD.2.2.2.2.2.2.1)
    have f186 : Fld Z h179 ra "com/example/slotwright/slotwright/solver/Occupancy" "listed" "[Z" (.ref rl) := F_listed.other W179 (Or.inl hD.2.2.2.2.2.2.1)
    have f187 : Fld Z h179 ra "com/example/slotwright/slotwright/solver/Occupancy" "clashingCount" "I" (.int (1 : Int32)) := F_clashingCount.other W179 (Or.inl hD.2.2.2.2.2.2.1)
    have f188 : Fld Z h179 ra "com/example/slotwright/slotwright/solver/Occupancy" "weighted" "J" (.long wd) := F_weighted.other W179 (Or.inl hD.2.2.2.2.2.2.1)
    have f189 : OAL Z h179 rm .int M := A_m.other W179 hD.2.2.2.2.2.2.2.2.2.2.1
    have f190 : OAL Z h179 rc .boolean Cl := A_c.other W179 (Ne.symm hD.2.2.2.2.2.2.2.2.2.2.2.2.2.2.1)
    have f191 : OAL Z h179 rl .boolean Li := A_l.other W179 (Ne.symm hD.2.2.2.2.2.2.2.2.2.2.2.2.2.2.2.1)
    have f192 : OAL Z h179 rk .int Ca := A_k.other W179 (Ne.symm hD.2.2.2.2.2.2.2.2.2.2.2.2.2.2.2.2.1)
    have Z193 : n0 ≤ h179.size := Nat.le_trans Z0 (Nat.le_of_eq W179.size.symm)
    have N194 := Fr.snoc X179 Nh175 hD.2.2.1
    obtain ⟨Lh195, Xh195, Nh195⟩ := own_hide X179 N194
    have V179 : OAL Z h179 rw .int (Wt.set y0.toNatClampNeg (xw0 + (1 : Int32))) := A179
    refine OGo.on st179 ?_
    show OGo p e below s _ _ _ (T179.setTop (mkF m 68 #[.val (.ref ra), .val (.int (0 : Int32)), .val (.int (0 : Int32)), .val (.int y0), .val (.int ((own_max (0 : Int32) (xm0 - (1 : Int32))) + (0 : Int32)))] []))
    refine OGo.on (fun t k => XS.aloadN Xh195.here hx rfl (hb hby d8_68) rfl rfl k) ?_
    refine OGo.on (fun t k => XS.dup Xh195.here hx rfl (hb hby d8_69) rfl rfl k) ?_
    show OGo p e below s _ _ _ (T179.setTop (mkF m 70 #[.val (.ref ra), .val (.int (0 : Int32)), .val (.int (0 : Int32)), .val (.int y0), .val (.int ((own_max (0 : Int32) (xm0 - (1 : Int32))) + (0 : Int32)))] [(.ref ra), (.ref ra)]))
    obtain ⟨T196, X196, e196, st196⟩ := getF Xh195 hx hZ hown (host := "") (Or.inl (hw _ (List.mem_of_getElem? (i := 46) rfl))) Via.refl e179 f188 (g := (mkF m 70 #[.val (.ref ra), .val (.int (0 : Int32)), .val (.int (0 : Int32)), .val (.int y0), .val (.int ((own_max (0 : Int32) (xm0 - (1 : Int32))) + (0 : Int32)))] [(.ref ra), (.ref ra)])) rfl rfl (hb hby d8_70)
    refine OGo.on st196 ?_
    show OGo p e below s _ _ _ (T196.setTop (mkF m 73 #[.val (.ref ra), .val (.int (0 : Int32)), .val (.int (0 : Int32)), .val (.int y0), .val (.int ((own_max (0 : Int32) (xm0 - (1 : Int32))) + (0 : Int32)))] [(.long wd), (.ref ra)]))
    refine OGo.on (fun t k => XS.iload X196.here hx rfl (hb hby d8_73) rfl k) ?_
    refine OGo.on (fun t k => XS.i2l X196.here hx rfl (hb hby d8_75) rfl k) ?_
    refine OGo.on (fun t k => XS.ladd X196.here hx rfl (hb hby d8_76) rfl k) ?_
    show OGo p e below s _ _ _ (T196.setTop (mkF m 77 #[.val (.ref ra), .val (.int (0 : Int32)), .val (.int (0 : Int32)), .val (.int y0), .val (.int ((own_max (0 : Int32) (xm0 - (1 : Int32))) + (0 : Int32)))] [(.long (wd + (((own_max (0 : Int32) (xm0 - (1 : Int32))) + (0 : Int32)).toInt64))), (.ref ra)]))
    obtain ⟨T197, h197, X197, e197, W197, st197⟩ := putF X196 hx hZ hown (host := "") (Or.inl (hw _ (List.mem_of_getElem? (i := 46) rfl))) Via.refl e196 f188 f180 (Or.inl (hw _ (List.mem_of_getElem? (i := 47) rfl))) (hw _ (List.mem_of_getElem? (i := 3) rfl)) (ty := .long) (by decide) rfl rfl (g := (mkF m 77 #[.val (.ref ra), .val (.int (0 : Int32)), .val (.int (0 : Int32)), .val (.int y0), .val (.int ((own_max (0 : Int32) (xm0 - (1 : Int32))) + (0 : Int32)))] [(.long (wd + (((own_max (0 : Int32) (xm0 - (1 : Int32))) + (0 : Int32)).toInt64))), (.ref ra)])) rfl rfl (hb hby d8_77)
    have f198 : Exa Z h197 ra "com/example/slotwright/slotwright/solver/Occupancy" := f180.wr W197
    have f199 : Fld Z h197 ra "com/example/slotwright/slotwright/solver/Occupancy" "clashing" "[I" (.ref rk) := f181.other W197 (Or.inr (slot_ne (Or.inl (hw _ (List.mem_of_getElem? (i := 13) rfl))) (Or.inl (hw _ (List.mem_of_getElem? (i := 47) rfl))) (by decide) (t := (.array .int)) (t' := .long) (by decide) (by decide)))
    have f200 : Fld Z h197 ra "com/example/slotwright/slotwright/solver/Occupancy" "slots" "I" (.int (3 : Int32)) := f182.other W197 (Or.inr (slot_ne (Or.inr (hw _ (List.mem_of_getElem? (i := 15) rfl))) (Or.inl (hw _ (List.mem_of_getElem? (i := 47) rfl))) (by decide) (t := .int) (t' := .long) (by decide) (by decide)))
    have f201 : Fld Z h197 ra "com/example/slotwright/slotwright/solver/Occupancy" "meetings" "[I" (.ref rm) := f183.other W197 (Or.inr (slot_ne (Or.inr (hw _ (List.mem_of_getElem? (i := 22) rfl))) (Or.inl (hw _ (List.mem_of_getElem? (i := 47) rfl))) (by decide) (t := (.array .int)) (t' := .long) (by decide) (by decide)))
    have f202 : Fld Z h197 ra "com/example/slotwright/slotwright/solver/Occupancy" "closed" "[Z" (.ref rc) := f184.other W197 (Or.inr (slot_ne (Or.inr (hw _ (List.mem_of_getElem? (i := 24) rfl))) (Or.inl (hw _ (List.mem_of_getElem? (i := 47) rfl))) (by decide) (t := (.array .boolean)) (t' := .long) (by decide) (by decide)))
    have f203 : Fld Z h197 ra "com/example/slotwright/slotwright/solver/Occupancy" "weights" "[I" (.ref rw) := f185.other W197 (Or.inr (slot_ne (Or.inr (hw _ (List.mem_of_getElem? (i := 33) rfl))) (Or.inl (hw _ (List.mem_of_getElem? (i := 47) rfl))) (by decide) (t := (.array .int)) (t' := .long) (by decide) (by decide)))
    have f204 : Fld Z h197 ra "com/example/slotwright/slotwright/solver/Occupancy" "listed" "[Z" (.ref rl) := f186.other W197 (Or.inr (slot_ne (Or.inr (hw _ (List.mem_of_getElem? (i := 35) rfl))) (Or.inl (hw _ (List.mem_of_getElem? (i := 47) rfl))) (by decide) (t := (.array .boolean)) (t' := .long) (by decide) (by decide)))
    have f205 : Fld Z h197 ra "com/example/slotwright/slotwright/solver/Occupancy" "clashingCount" "I" (.int (1 : Int32)) := f187.other W197 (Or.inr (slot_ne (Or.inl (hw _ (List.mem_of_getElem? (i := 49) rfl))) (Or.inl (hw _ (List.mem_of_getElem? (i := 47) rfl))) (by decide) (t := .int) (t' := .long) (by decide) (by decide)))
    have f206 : OAL Z h197 rm .int M := f189.other W197 (Ne.symm hD.2.2.2.2.2.1)
    have f207 : OAL Z h197 rw .int (Wt.set y0.toNatClampNeg (xw0 + (1 : Int32))) := V179.other W197 (Ne.symm hD.2.2.2.2.2.2.1)
    have f208 : OAL Z h197 rc .boolean Cl := f190.other W197 (Ne.symm hD.2.2.2.2.2.2.2.1)
    have f209 : OAL Z h197 rl .boolean Li := f191.other W197 (Ne.symm hD.2.2.2.2.2.2.2.2.1)
    have f210 : OAL Z h197 rk .int Ca := f192.other W197 (Ne.symm hD.2.2.2.2.2.2.2.2.2.1)
    have Z211 : n0 ≤ h197.size := Nat.le_trans Z193 (Nat.le_of_eq W197.size.symm)
    have N212 := Fr.snoc X197 Nh195 hD.1
    obtain ⟨Lh213, Xh213, Nh213⟩ := own_hide X197 N212
    have f214 : Fld Z h197 ra "com/example/slotwright/slotwright/solver/Occupancy" "weighted" "J" (.long (wd + (((own_max (0 : Int32) (xm0 - (1 : Int32))) + (0 : Int32)).toInt64))) := f188.same W197
    refine OGo.on st197 ?_
    show OGo p e below s _ _ _ (T197.setTop (mkF m 80 #[.val (.ref ra), .val (.int (0 : Int32)), .val (.int (0 : Int32)), .val (.int y0), .val (.int ((own_max (0 : Int32) (xm0 - (1 : Int32))) + (0 : Int32)))] []))
    refine OGo.on (fun t k => XS.aloadN Xh213.here hx rfl (hb hby d8_80) rfl rfl k) ?_
    show OGo p e below s _ _ _ (T197.setTop (mkF m 81 #[.val (.ref ra), .val (.int (0 : Int32)), .val (.int (0 : Int32)), .val (.int y0), .val (.int ((own_max (0 : Int32) (xm0 - (1 : Int32))) + (0 : Int32)))] [(.ref ra)]))
    obtain ⟨T215, X215, e215, st215⟩ := getF Xh213 hx hZ hown (host := "") (Or.inl (hw _ (List.mem_of_getElem? (i := 12) rfl))) Via.refl e197 f199 (g := (mkF m 81 #[.val (.ref ra), .val (.int (0 : Int32)), .val (.int (0 : Int32)), .val (.int y0), .val (.int ((own_max (0 : Int32) (xm0 - (1 : Int32))) + (0 : Int32)))] [(.ref ra)])) rfl rfl (hb hby d8_81)
    refine OGo.on st215 ?_
    show OGo p e below s _ _ _ (T215.setTop (mkF m 84 #[.val (.ref ra), .val (.int (0 : Int32)), .val (.int (0 : Int32)), .val (.int y0), .val (.int ((own_max (0 : Int32) (xm0 - (1 : Int32))) + (0 : Int32)))] [(.ref rk)]))
    refine OGo.on (fun t k => XS.iloadN X215.here hx rfl (hb hby d8_84) rfl k) ?_
    refine OGo.on (fun t k => XS.iinc X215.here hx rfl (hb hby d8_85) rfl (l' := #[.val (.ref ra), .val (.int (1 : Int32)), .val (.int (0 : Int32)), .val (.int y0), .val (.int ((own_max (0 : Int32) (xm0 - (1 : Int32))) + (0 : Int32)))]) rfl k) ?_
    refine OGo.on (fun t k => XS.iloadN X215.here hx rfl (hb hby d8_88) rfl k) ?_
    show OGo p e below s _ _ _ (T215.setTop (mkF m 89 #[.val (.ref ra), .val (.int (1 : Int32)), .val (.int (0 : Int32)), .val (.int y0), .val (.int ((own_max (0 : Int32) (xm0 - (1 : Int32))) + (0 : Int32)))] [(.int y0), (.int (0 : Int32)), (.ref rk)]))
    obtain ⟨T216, h216, X216, e216, W216, A216, st216⟩ := OAL.stI X215 hx hZ e215 f210 (j := (0 : Int32)) (x := y0) (by decide) (by (try simp only [List.length_set]); rw [hca]; decide) (Ls := #[.val (.ref ra), .val (.int (1 : Int32)), .val (.int (0 : Int32)), .val (.int y0), .val (.int ((own_max (0 : Int32) (xm0 - (1 : Int32))) + (0 : Int32)))]) (rest := []) (hb hby d8_89)
    have f217 : Exa Z h216 ra "com/example/slotwright/slotwright/solver/Occupancy" := f198.wr W216
    have f218 : Fld Z h216 ra "com/example/slotwright/slotwright/solver/Occupancy" "clashing" "[I" (.ref rk) := f199.other W216 (Or.inl hD.2.2.2.2.2.2.2.2.2.1)
    have f219 : Fld Z h216 ra "com/example/slotwright/slotwright/solver/Occupancy" "slots" "I" (.int (3 : Int32)) := f200.other W216 (Or.inl hD.2.2.2.2.2.2.2.2.2.1)
    have f220 : Fld Z h216 ra "com/example/slotwright/slotwright/solver/Occupancy" "meetings" "[I" (.ref rm) := f201.other W216 (Or.inl hD.2.2.2.2.2.2.2.2.2.1)
    have f221 : Fld Z h216 ra "com/example/slotwright/slotwright/solver/Occupancy" "closed" "[Z" (.ref rc) := f202.other W216 (Or.inl hD.2.2.2.2.2.2.2.2.2.1)
    have f222 : Fld Z h216 ra "com/example/slotwright/slotwright/solver/Occupancy" "weights" "[I" (.ref rw) := f203.other W216 (Or.inl hD.2.2.2.2.2.2.2.2.2.1)
    have f223 : Fld Z h216 ra "com/example/slotwright/slotwright/solver/Occupancy" "listed" "[Z" (.ref rl) := f204.other W216 (Or.inl hD.2.2.2.2.2.2.2.2.2.1)
    have f224 : Fld Z h216 ra "com/example/slotwright/slotwright/solver/Occupancy" "clashingCount" "I" (.int (1 : Int32)) := f205.other W216 (Or.inl hD.2.2.2.2.2.2.2.2.2.1)
    have f225 : Fld Z h216 ra "com/example/slotwright/slotwright/solver/Occupancy" "weighted" "J" (.long (wd + (((own_max (0 : Int32) (xm0 - (1 : Int32))) + (0 : Int32)).toInt64))) := f214.other W216 (Or.inl hD.2.2.2.2.2.2.2.2.2.1)
    have f226 : OAL Z h216 rm .int M := f206.other W216 hD.2.2.2.2.2.2.2.2.2.2.2.2.2.1
    have f227 : OAL Z h216 rw .int (Wt.set y0.toNatClampNeg (xw0 + (1 : Int32))) := f207.other W216 hD.2.2.2.2.2.2.2.2.2.2.2.2.2.2.2.2.1
    have f228 : OAL Z h216 rc .boolean Cl := f208.other W216 hD.2.2.2.2.2.2.2.2.2.2.2.2.2.2.2.2.2.2.1
    have f229 : OAL Z h216 rl .boolean Li := f209.other W216 hD.2.2.2.2.2.2.2.2.2.2.2.2.2.2.2.2.2.2.2
    have Z230 : n0 ≤ h216.size := Nat.le_trans Z211 (Nat.le_of_eq W216.size.symm)
    have N231 := Fr.snoc X216 Nh213 hD.2.2.2.2.1
    obtain ⟨Lh232, Xh232, Nh232⟩ := own_hide X216 N231
    have V216 : OAL Z h216 rk .int (Ca.set (0 : Int32).toNatClampNeg y0) := A216
    refine OGo.on st216 ?_
    show OGo p e below s _ _ _ (T216.setTop (mkF m 90 #[.val (.ref ra), .val (.int (1 : Int32)), .val (.int (0 : Int32)), .val (.int y0), .val (.int ((own_max (0 : Int32) (xm0 - (1 : Int32))) + (0 : Int32)))] []))
    refine OGo.on (fun t k => XS.goto Xh232.here hx rfl (pc0 := 90) (pc' := 100) rfl (hb hby d8_90) (by decide) (by decide) k) ?_
    refine OGo.on (fun t k => XS.iinc Xh232.here hx rfl (hb hby d8_100) rfl (l' := #[.val (.ref ra), .val (.int (1 : Int32)), .val (.int (1 : Int32)), .val (.int y0), .val (.int ((own_max (0 : Int32) (xm0 - (1 : Int32))) + (0 : Int32)))]) rfl k) ?_
    refine OGo.on (fun t k => XS.goto Xh232.here hx rfl (pc0 := 103) (pc' := 4) rfl (hb hby d8_103) (by decide) (by decide) k) ?_
    refine OGo.on (fun t k => XS.iloadN Xh232.here hx rfl (hb hby d8_4) rfl k) ?_
    show OGo p e below s _ _ _ (T216.setTop (mkF m 5 #[.val (.ref ra), .val (.int (1 : Int32)), .val (.int (1 : Int32)), .val (.int y0), .val (.int ((own_max (0 : Int32) (xm0 - (1 : Int32))) + (0 : Int32)))] [(.int (1 : Int32))]))
    refine OGo.on (fun t k => XS.aloadN Xh232.here hx rfl (hb hby d8_5) rfl rfl k) ?_
    show OGo p e below s _ _ _ (T216.setTop (mkF m 6 #[.val (.ref ra), .val (.int (1 : Int32)), .val (.int (1 : Int32)), .val (.int y0), .val (.int ((own_max (0 : Int32) (xm0 - (1 : Int32))) + (0 : Int32)))] [(.ref ra), (.int (1 : Int32))]))
    obtain ⟨T233, X233, e233, st233⟩ := getF Xh232 hx hZ hown (host := "") (Or.inl (hw _ (List.mem_of_getElem? (i := 48) rfl))) Via.refl e216 f224 (g := (mkF m 6 #[.val (.ref ra), .val (.int (1 : Int32)), .val (.int (1 : Int32)), .val (.int y0), .val (.int ((own_max (0 : Int32) (xm0 - (1 : Int32))) + (0 : Int32)))] [(.ref ra), (.int (1 : Int32))])) rfl rfl (hb hby d8_6)
    refine OGo.on st233 ?_
    show OGo p e below s _ _ _ (T233.setTop (mkF m 9 #[.val (.ref ra), .val (.int (1 : Int32)), .val (.int (1 : Int32)), .val (.int y0), .val (.int ((own_max (0 : Int32) (xm0 - (1 : Int32))) + (0 : Int32)))] [(.int (1 : Int32)), (.int (1 : Int32))]))
    refine OGo.on (fun t k => XS.icmpYes X233.here hx rfl (pc0 := 9) (pc' := 106) rfl (hb hby d8_9) rfl (flt (by decide)).2.1 (by decide) (by decide) k) ?_
    show OGo p e below s _ _ _ (T233.setTop (mkF m 106 #[.val (.ref ra), .val (.int (1 : Int32)), .val (.int (1 : Int32)), .val (.int y0), .val (.int ((own_max (0 : Int32) (xm0 - (1 : Int32))) + (0 : Int32)))] []))
    refine OGo.on (fun t k => XS.aloadN X233.here hx rfl (hb hby d8_106) rfl rfl k) ?_
    refine OGo.on (fun t k => XS.iloadN X233.here hx rfl (hb hby d8_107) rfl k) ?_
    show OGo p e below s _ _ _ (T233.setTop (mkF m 108 #[.val (.ref ra), .val (.int (1 : Int32)), .val (.int (1 : Int32)), .val (.int y0), .val (.int ((own_max (0 : Int32) (xm0 - (1 : Int32))) + (0 : Int32)))] [(.int (1 : Int32)), (.ref ra)]))
    obtain ⟨T234, h234, X234, e234, W234, st234⟩ := putF X233 hx hZ hown (host := "") (Or.inl (hw _ (List.mem_of_getElem? (i := 48) rfl))) Via.refl e233 f224 f217 (Or.inl (hw _ (List.mem_of_getElem? (i := 49) rfl))) (hw _ (List.mem_of_getElem? (i := 3) rfl)) (ty := .int) (by decide) rfl rfl (g := (mkF m 108 #[.val (.ref ra), .val (.int (1 : Int32)), .val (.int (1 : Int32)), .val (.int y0), .val (.int ((own_max (0 : Int32) (xm0 - (1 : Int32))) + (0 : Int32)))] [(.int (1 : Int32)), (.ref ra)])) rfl rfl (hb hby d8_108)
    have f235 : Exa Z h234 ra "com/example/slotwright/slotwright/solver/Occupancy" := f217.wr W234
    have f236 : Fld Z h234 ra "com/example/slotwright/slotwright/solver/Occupancy" "clashing" "[I" (.ref rk) := f218.other W234 (Or.inr (slot_ne (Or.inl (hw _ (List.mem_of_getElem? (i := 13) rfl))) (Or.inl (hw _ (List.mem_of_getElem? (i := 49) rfl))) (by decide) (t := (.array .int)) (t' := .int) (by decide) (by decide)))
    have f237 : Fld Z h234 ra "com/example/slotwright/slotwright/solver/Occupancy" "slots" "I" (.int (3 : Int32)) := f219.other W234 (Or.inr (slot_ne (Or.inr (hw _ (List.mem_of_getElem? (i := 15) rfl))) (Or.inl (hw _ (List.mem_of_getElem? (i := 49) rfl))) (by decide) (t := .int) (t' := .int) (by decide) (by decide)))
    have f238 : Fld Z h234 ra "com/example/slotwright/slotwright/solver/Occupancy" "meetings" "[I" (.ref rm) := f220.other W234 (Or.inr (slot_ne (Or.inr (hw _ (List.mem_of_getElem? (i := 22) rfl))) (Or.inl (hw _ (List.mem_of_getElem? (i := 49) rfl))) (by decide) (t := (.array .int)) (t' := .int) (by decide) (by decide)))
    have f239 : Fld Z h234 ra "com/example/slotwright/slotwright/solver/Occupancy" "closed" "[Z" (.ref rc) := f221.other W234 (Or.inr (slot_ne (Or.inr (hw _ (List.mem_of_getElem? (i := 24) rfl))) (Or.inl (hw _ (List.mem_of_getElem? (i := 49) rfl))) (by decide) (t := (.array .boolean)) (t' := .int) (by decide) (by decide)))
    have f240 : Fld Z h234 ra "com/example/slotwright/slotwright/solver/Occupancy" "weights" "[I" (.ref rw) := f222.other W234 (Or.inr (slot_ne (Or.inr (hw _ (List.mem_of_getElem? (i := 33) rfl))) (Or.inl (hw _ (List.mem_of_getElem? (i := 49) rfl))) (by decide) (t := (.array .int)) (t' := .int) (by decide) (by decide)))
    have f241 : Fld Z h234 ra "com/example/slotwright/slotwright/solver/Occupancy" "listed" "[Z" (.ref rl) := f223.other W234 (Or.inr (slot_ne (Or.inr (hw _ (List.mem_of_getElem? (i := 35) rfl))) (Or.inl (hw _ (List.mem_of_getElem? (i := 49) rfl))) (by decide) (t := (.array .boolean)) (t' := .int) (by decide) (by decide)))
    have f242 : Fld Z h234 ra "com/example/slotwright/slotwright/solver/Occupancy" "weighted" "J" (.long (wd + (((own_max (0 : Int32) (xm0 - (1 : Int32))) + (0 : Int32)).toInt64))) := f225.other W234 (Or.inr (slot_ne (Or.inl (hw _ (List.mem_of_getElem? (i := 47) rfl))) (Or.inl (hw _ (List.mem_of_getElem? (i := 49) rfl))) (by decide) (t := .long) (t' := .int) (by decide) (by decide)))
    have f243 : OAL Z h234 rm .int M := f226.other W234 (Ne.symm hD.2.2.2.2.2.1)
    have f244 : OAL Z h234 rw .int (Wt.set y0.toNatClampNeg (xw0 + (1 : Int32))) := f227.other W234 (Ne.symm hD.2.2.2.2.2.2.1)
    have f245 : OAL Z h234 rc .boolean Cl := f228.other W234 (Ne.symm hD.2.2.2.2.2.2.2.1)
    have f246 : OAL Z h234 rl .boolean Li := f229.other W234 (Ne.symm hD.2.2.2.2.2.2.2.2.1)
    have f247 : OAL Z h234 rk .int (Ca.set (0 : Int32).toNatClampNeg y0) := V216.other W234 (Ne.symm hD.2.2.2.2.2.2.2.2.2.1)
    have Z248 : n0 ≤ h234.size := Nat.le_trans Z230 (Nat.le_of_eq W234.size.symm)
    have N249 := Fr.snoc X234 Nh232 hD.1
    obtain ⟨Lh250, Xh250, Nh250⟩ := own_hide X234 N249
    have f251 : Fld Z h234 ra "com/example/slotwright/slotwright/solver/Occupancy" "clashingCount" "I" (.int (1 : Int32)) := f224.same W234
    refine OGo.on st234 ?_
    show OGo p e below s _ _ _ (T234.setTop (mkF m 111 #[.val (.ref ra), .val (.int (1 : Int32)), .val (.int (1 : Int32)), .val (.int y0), .val (.int ((own_max (0 : Int32) (xm0 - (1 : Int32))) + (0 : Int32)))] []))
    exact OGo.ret0 Xh250 hx hret hlk (hb hby d8_111) ⟨rfl, Nh250, by rw [e234]; exact Z248, by rw [e234]; exact ⟨f235, f236, f237, f238, f239, f240, f241, f251, ⟨_, f242⟩, f243, f244, f245, f246, f247⟩⟩ (by decide) (by decide)
  · refine OGo.on (fun t k => XS.ifNo X176.here hx rfl (hb hby d8_37) rfl ((if0 _ _).trans (feq hc177).1) k) ?_
    show OGo p e below s _ _ _ (T176.setTop (mkF m 40 #[.val (.ref ra), .val (.int (0 : Int32)), .val (.int (0 : Int32)), .val (.int y0), .unset] [(.int (own_max (0 : Int32) (xm0 - (1 : Int32))))]))
    refine OGo.on (fun t k => XS.aloadN X176.here hx rfl (hb hby d8_40) rfl rfl k) ?_
    show OGo p e below s _ _ _ (T176.setTop (mkF m 41 #[.val (.ref ra), .val (.int (0 : Int32)), .val (.int (0 : Int32)), .val (.int y0), .unset] [(.ref ra), (.int (own_max (0 : Int32) (xm0 - (1 : Int32))))]))
    obtain ⟨T252, X252, e252, st252⟩ := getF X176 hx hZ hown (host := "") (Or.inl (hw _ (List.mem_of_getElem? (i := 21) rfl))) Via.refl e176 F_meetings (g := (mkF m 41 #[.val (.ref ra), .val (.int (0 : Int32)), .val (.int (0 : Int32)), .val (.int y0), .unset] [(.ref ra), (.int (own_max (0 : Int32) (xm0 - (1 : Int32))))])) rfl rfl (hb hby d8_41)
    refine OGo.on st252 ?_
    show OGo p e below s _ _ _ (T252.setTop (mkF m 44 #[.val (.ref ra), .val (.int (0 : Int32)), .val (.int (0 : Int32)), .val (.int y0), .unset] [(.ref rm), (.int (own_max (0 : Int32) (xm0 - (1 : Int32))))]))
    refine OGo.on (fun t k => XS.iloadN X252.here hx rfl (hb hby d8_44) rfl k) ?_
    show OGo p e below s _ _ _ (T252.setTop (mkF m 45 #[.val (.ref ra), .val (.int (0 : Int32)), .val (.int (0 : Int32)), .val (.int y0), .unset] [(.int y0), (.ref rm), (.int (own_max (0 : Int32) (xm0 - (1 : Int32))))]))
    refine OGo.on (fun t k => OAL.ia X252 hx hZ e252 A_m qm0 (hb hby d8_45) k) ?_
    show OGo p e below s _ _ _ (T252.setTop (mkF m 46 #[.val (.ref ra), .val (.int (0 : Int32)), .val (.int (0 : Int32)), .val (.int y0), .unset] [(.int xm0), (.int (own_max (0 : Int32) (xm0 - (1 : Int32))))]))
    refine OGo.on (fun t k => XS.goto X252.here hx rfl (pc0 := 46) (pc' := 50) rfl (hb hby d8_46) (by decide) (by decide) k) ?_
    refine OGo.on (fun t k => XS.iadd X252.here hx rfl (hb hby d8_50) rfl k) ?_
    refine OGo.on (fun t k => XS.istore X252.here hx rfl (hb hby d8_51) rfl (l' := #[.val (.ref ra), .val (.int (0 : Int32)), .val (.int (0 : Int32)), .val (.int y0), .val (.int ((own_max (0 : Int32) (xm0 - (1 : Int32))) + xm0))]) rfl k) ?_
    refine OGo.on (fun t k => XS.iload X252.here hx rfl (hb hby d8_53) rfl k) ?_
    show OGo p e below s _ _ _ (T252.setTop (mkF m 55 #[.val (.ref ra), .val (.int (0 : Int32)), .val (.int (0 : Int32)), .val (.int y0), .val (.int ((own_max (0 : Int32) (xm0 - (1 : Int32))) + xm0))] [(.int ((own_max (0 : Int32) (xm0 - (1 : Int32))) + xm0))]))
    refine OGo.on (fun t k => XS.ifNo X252.here hx rfl (hb hby d8_55) rfl ((if0 _ _).trans (tlt (by have z := hz0; unfold own_cnt at z; rw [if_neg hc177] at z; exact z)).2.2.2) k) ?_
    show OGo p e below s _ _ _ (T252.setTop (mkF m 58 #[.val (.ref ra), .val (.int (0 : Int32)), .val (.int (0 : Int32)), .val (.int y0), .val (.int ((own_max (0 : Int32) (xm0 - (1 : Int32))) + xm0))] []))
    refine OGo.on (fun t k => XS.aloadN X252.here hx rfl (hb hby d8_58) rfl rfl k) ?_
    show OGo p e below s _ _ _ (T252.setTop (mkF m 59 #[.val (.ref ra), .val (.int (0 : Int32)), .val (.int (0 : Int32)), .val (.int y0), .val (.int ((own_max (0 : Int32) (xm0 - (1 : Int32))) + xm0))] [(.ref ra)]))
    obtain ⟨T253, X253, e253, st253⟩ := getF X252 hx hZ hown (host := "") (Or.inl (hw _ (List.mem_of_getElem? (i := 32) rfl))) Via.refl e252 F_weights (g := (mkF m 59 #[.val (.ref ra), .val (.int (0 : Int32)), .val (.int (0 : Int32)), .val (.int y0), .val (.int ((own_max (0 : Int32) (xm0 - (1 : Int32))) + xm0))] [(.ref ra)])) rfl rfl (hb hby d8_59)
    refine OGo.on st253 ?_
    show OGo p e below s _ _ _ (T253.setTop (mkF m 62 #[.val (.ref ra), .val (.int (0 : Int32)), .val (.int (0 : Int32)), .val (.int y0), .val (.int ((own_max (0 : Int32) (xm0 - (1 : Int32))) + xm0))] [(.ref rw)]))
    refine OGo.on (fun t k => XS.iloadN X253.here hx rfl (hb hby d8_62) rfl k) ?_
    show OGo p e below s _ _ _ (T253.setTop (mkF m 63 #[.val (.ref ra), .val (.int (0 : Int32)), .val (.int (0 : Int32)), .val (.int y0), .val (.int ((own_max (0 : Int32) (xm0 - (1 : Int32))) + xm0))] [(.int y0), (.ref rw)]))
    refine OGo.on (fun t k => XT.dup2 X253.here hx rfl (hb hby d8_63) rfl rfl rfl k) ?_
    show OGo p e below s _ _ _ (T253.setTop (mkF m 64 #[.val (.ref ra), .val (.int (0 : Int32)), .val (.int (0 : Int32)), .val (.int y0), .val (.int ((own_max (0 : Int32) (xm0 - (1 : Int32))) + xm0))] [(.int y0), (.ref rw), (.int y0), (.ref rw)]))
    refine OGo.on (fun t k => OAL.ia X253 hx hZ e253 A_w qw0 (hb hby d8_64) k) ?_
    show OGo p e below s _ _ _ (T253.setTop (mkF m 65 #[.val (.ref ra), .val (.int (0 : Int32)), .val (.int (0 : Int32)), .val (.int y0), .val (.int ((own_max (0 : Int32) (xm0 - (1 : Int32))) + xm0))] [(.int xw0), (.int y0), (.ref rw)]))
    refine OGo.on (fun t k => XS.iconst X253.here hx rfl (hb hby d8_65) k) ?_
    refine OGo.on (fun t k => XS.iadd X253.here hx rfl (hb hby d8_66) rfl k) ?_
    show OGo p e below s _ _ _ (T253.setTop (mkF m 67 #[.val (.ref ra), .val (.int (0 : Int32)), .val (.int (0 : Int32)), .val (.int y0), .val (.int ((own_max (0 : Int32) (xm0 - (1 : Int32))) + xm0))] [(.int (xw0 + (1 : Int32))), (.int y0), (.ref rw)]))
    obtain ⟨T254, h254, X254, e254, W254, A254, st254⟩ := OAL.stI X253 hx hZ e253 A_w (j := y0) (x := (xw0 + (1 : Int32))) qw0.1 (oat_lt qw0) (Ls := #[.val (.ref ra), .val (.int (0 : Int32)), .val (.int (0 : Int32)), .val (.int y0), .val (.int ((own_max (0 : Int32) (xm0 - (1 : Int32))) + xm0))]) (rest := []) (hb hby d8_67)
    have f255 : Exa Z h254 ra "com/example/slotwright/slotwright/solver/Occupancy" := E_o.wr W254
    have f256 : Fld Z h254 ra "com/example/slotwright/slotwright/solver/Occupancy" "clashing" "[I" (.ref rk) := F_clashing.other W254 (Or.inl hD.2.2.2.2.2.2.1)
    have f257 : Fld Z h254 ra "com/example/slotwright/slotwright/solver/Occupancy" "slots" "I" (.int (3 : Int32)) := F_slots.other W254 (Or.inl hD.2.2.2.2.2.2.1)
    have f258 : Fld Z h254 ra "com/example/slotwright/slotwright/solver/Occupancy" "meetings" "[I" (.ref rm) := F_meetings.other W254 (Or.inl hD.2.2.2.2.2.2.1)
    have f259 : Fld Z h254 ra "com/example/slotwright/slotwright/solver/Occupancy" "closed" "[Z" (.ref rc) := F_closed.other W254 (Or.inl hD.2.2.2.2.2.2.1)
    have f260 : Fld Z h254 ra "com/example/slotwright/slotwright/solver/Occupancy" "weights" "[I" (.ref rw) := F_weights.other W254 (Or.inl hD.2.2.2.2.2.2.1)
    have f261 : Fld Z h254 ra "com/example/slotwright/slotwright/solver/Occupancy" "listed" "[Z" (.ref rl) := F_listed.other W254 (Or.inl hD.2.2.2.2.2.2.1)
    have f262 : Fld Z h254 ra "com/example/slotwright/slotwright/solver/Occupancy" "clashingCount" "I" (.int (1 : Int32)) := F_clashingCount.other W254 (Or.inl hD.2.2.2.2.2.2.1)
    have f263 : Fld Z h254 ra "com/example/slotwright/slotwright/solver/Occupancy" "weighted" "J" (.long wd) := F_weighted.other W254 (Or.inl hD.2.2.2.2.2.2.1)
    have f264 : OAL Z h254 rm .int M := A_m.other W254 hD.2.2.2.2.2.2.2.2.2.2.1
    have f265 : OAL Z h254 rc .boolean Cl := A_c.other W254 (Ne.symm hD.2.2.2.2.2.2.2.2.2.2.2.2.2.2.1)
    have f266 : OAL Z h254 rl .boolean Li := A_l.other W254 (Ne.symm hD.2.2.2.2.2.2.2.2.2.2.2.2.2.2.2.1)
    have f267 : OAL Z h254 rk .int Ca := A_k.other W254 (Ne.symm hD.2.2.2.2.2.2.2.2.2.2.2.2.2.2.2.2.1)
    have Z268 : n0 ≤ h254.size := Nat.le_trans Z0 (Nat.le_of_eq W254.size.symm)
    have N269 := Fr.snoc X254 Nh175 hD.2.2.1
    obtain ⟨Lh270, Xh270, Nh270⟩ := own_hide X254 N269
    have V254 : OAL Z h254 rw .int (Wt.set y0.toNatClampNeg (xw0 + (1 : Int32))) := A254
    refine OGo.on st254 ?_
    show OGo p e below s _ _ _ (T254.setTop (mkF m 68 #[.val (.ref ra), .val (.int (0 : Int32)), .val (.int (0 : Int32)), .val (.int y0), .val (.int ((own_max (0 : Int32) (xm0 - (1 : Int32))) + xm0))] []))
    refine OGo.on (fun t k => XS.aloadN Xh270.here hx rfl (hb hby d8_68) rfl rfl k) ?_
    refine OGo.on (fun t k => XS.dup Xh270.here hx rfl (hb hby d8_69) rfl rfl k) ?_
    show OGo p e below s _ _ _ (T254.setTop (mkF m 70 #[.val (.ref ra), .val (.int (0 : Int32)), .val (.int (0 : Int32)), .val (.int y0), .val (.int ((own_max (0 : Int32) (xm0 - (1 : Int32))) + xm0))] [(.ref ra), (.ref ra)]))
    obtain ⟨T271, X271, e271, st271⟩ := getF Xh270 hx hZ hown (host := "") (Or.inl (hw _ (List.mem_of_getElem? (i := 46) rfl))) Via.refl e254 f263 (g := (mkF m 70 #[.val (.ref ra), .val (.int (0 : Int32)), .val (.int (0 : Int32)), .val (.int y0), .val (.int ((own_max (0 : Int32) (xm0 - (1 : Int32))) + xm0))] [(.ref ra), (.ref ra)])) rfl rfl (hb hby d8_70)
    refine OGo.on st271 ?_
    show OGo p e below s _ _ _ (T271.setTop (mkF m 73 #[.val (.ref ra), .val (.int (0 : Int32)), .val (.int (0 : Int32)), .val (.int y0), .val (.int ((own_max (0 : Int32) (xm0 - (1 : Int32))) + xm0))] [(.long wd), (.ref ra)]))
    refine OGo.on (fun t k => XS.iload X271.here hx rfl (hb hby d8_73) rfl k) ?_
    refine OGo.on (fun t k => XS.i2l X271.here hx rfl (hb hby d8_75) rfl k) ?_
    refine OGo.on (fun t k => XS.ladd X271.here hx rfl (hb hby d8_76) rfl k) ?_
    show OGo p e below s _ _ _ (T271.setTop (mkF m 77 #[.val (.ref ra), .val (.int (0 : Int32)), .val (.int (0 : Int32)), .val (.int y0), .val (.int ((own_max (0 : Int32) (xm0 - (1 : Int32))) + xm0))] [(.long (wd + (((own_max (0 : Int32) (xm0 - (1 : Int32))) + xm0).toInt64))), (.ref ra)]))
    obtain ⟨T272, h272, X272, e272, W272, st272⟩ := putF X271 hx hZ hown (host := "") (Or.inl (hw _ (List.mem_of_getElem? (i := 46) rfl))) Via.refl e271 f263 f255 (Or.inl (hw _ (List.mem_of_getElem? (i := 47) rfl))) (hw _ (List.mem_of_getElem? (i := 3) rfl)) (ty := .long) (by decide) rfl rfl (g := (mkF m 77 #[.val (.ref ra), .val (.int (0 : Int32)), .val (.int (0 : Int32)), .val (.int y0), .val (.int ((own_max (0 : Int32) (xm0 - (1 : Int32))) + xm0))] [(.long (wd + (((own_max (0 : Int32) (xm0 - (1 : Int32))) + xm0).toInt64))), (.ref ra)])) rfl rfl (hb hby d8_77)
    have f273 : Exa Z h272 ra "com/example/slotwright/slotwright/solver/Occupancy" := f255.wr W272
    have f274 : Fld Z h272 ra "com/example/slotwright/slotwright/solver/Occupancy" "clashing" "[I" (.ref rk) := f256.other W272 (Or.inr (slot_ne (Or.inl (hw _ (List.mem_of_getElem? (i := 13) rfl))) (Or.inl (hw _ (List.mem_of_getElem? (i := 47) rfl))) (by decide) (t := (.array .int)) (t' := .long) (by decide) (by decide)))
    have f275 : Fld Z h272 ra "com/example/slotwright/slotwright/solver/Occupancy" "slots" "I" (.int (3 : Int32)) := f257.other W272 (Or.inr (slot_ne (Or.inr (hw _ (List.mem_of_getElem? (i := 15) rfl))) (Or.inl (hw _ (List.mem_of_getElem? (i := 47) rfl))) (by decide) (t := .int) (t' := .long) (by decide) (by decide)))
    have f276 : Fld Z h272 ra "com/example/slotwright/slotwright/solver/Occupancy" "meetings" "[I" (.ref rm) := f258.other W272 (Or.inr (slot_ne (Or.inr (hw _ (List.mem_of_getElem? (i := 22) rfl))) (Or.inl (hw _ (List.mem_of_getElem? (i := 47) rfl))) (by decide) (t := (.array .int)) (t' := .long) (by decide) (by decide)))
    have f277 : Fld Z h272 ra "com/example/slotwright/slotwright/solver/Occupancy" "closed" "[Z" (.ref rc) := f259.other W272 (Or.inr (slot_ne (Or.inr (hw _ (List.mem_of_getElem? (i := 24) rfl))) (Or.inl (hw _ (List.mem_of_getElem? (i := 47) rfl))) (by decide) (t := (.array .boolean)) (t' := .long) (by decide) (by decide)))
    have f278 : Fld Z h272 ra "com/example/slotwright/slotwright/solver/Occupancy" "weights" "[I" (.ref rw) := f260.other W272 (Or.inr (slot_ne (Or.inr (hw _ (List.mem_of_getElem? (i := 33) rfl))) (Or.inl (hw _ (List.mem_of_getElem? (i := 47) rfl))) (by decide) (t := (.array .int)) (t' := .long) (by decide) (by decide)))
    have f279 : Fld Z h272 ra "com/example/slotwright/slotwright/solver/Occupancy" "listed" "[Z" (.ref rl) := f261.other W272 (Or.inr (slot_ne (Or.inr (hw _ (List.mem_of_getElem? (i := 35) rfl))) (Or.inl (hw _ (List.mem_of_getElem? (i := 47) rfl))) (by decide) (t := (.array .boolean)) (t' := .long) (by decide) (by decide)))
    have f280 : Fld Z h272 ra "com/example/slotwright/slotwright/solver/Occupancy" "clashingCount" "I" (.int (1 : Int32)) := f262.other W272 (Or.inr (slot_ne (Or.inl (hw _ (List.mem_of_getElem? (i := 49) rfl))) (Or.inl (hw _ (List.mem_of_getElem? (i := 47) rfl))) (by decide) (t := .int) (t' := .long) (by decide) (by decide)))
    have f281 : OAL Z h272 rm .int M := f264.other W272 (Ne.symm hD.2.2.2.2.2.1)
    have f282 : OAL Z h272 rw .int (Wt.set y0.toNatClampNeg (xw0 + (1 : Int32))) := V254.other W272 (Ne.symm hD.2.2.2.2.2.2.1)
    have f283 : OAL Z h272 rc .boolean Cl := f265.other W272 (Ne.symm hD.2.2.2.2.2.2.2.1)
    have f284 : OAL Z h272 rl .boolean Li := f266.other W272 (Ne.symm hD.2.2.2.2.2.2.2.2.1)
    have f285 : OAL Z h272 rk .int Ca := f267.other W272 (Ne.symm hD.2.2.2.2.2.2.2.2.2.1)
    have Z286 : n0 ≤ h272.size := Nat.le_trans Z268 (Nat.le_of_eq W272.size.symm)
    have N287 := Fr.snoc X272 Nh270 hD.1
    obtain ⟨Lh288, Xh288, Nh288⟩ := own_hide X272 N287
    have f289 : Fld Z h272 ra "com/example/slotwright/slotwright/solver/Occupancy" "weighted" "J" (.long (wd + (((own_max (0 : Int32) (xm0 - (1 : Int32))) + xm0).toInt64))) := f263.same W272
    refine OGo.on st272 ?_
    show OGo p e below s _ _ _ (T272.setTop (mkF m 80 #[.val (.ref ra), .val (.int (0 : Int32)), .val (.int (0 : Int32)), .val (.int y0), .val (.int ((own_max (0 : Int32) (xm0 - (1 : Int32))) + xm0))] []))
    refine OGo.on (fun t k => XS.aloadN Xh288.here hx rfl (hb hby d8_80) rfl rfl k) ?_
    show OGo p e below s _ _ _ (T272.setTop (mkF m 81 #[.val (.ref ra), .val (.int (0 : Int32)), .val (.int (0 : Int32)), .val (.int y0), .val (.int ((own_max (0 : Int32) (xm0 - (1 : Int32))) + xm0))] [(.ref ra)]))
    obtain ⟨T290, X290, e290, st290⟩ := getF Xh288 hx hZ hown (host := "") (Or.inl (hw _ (List.mem_of_getElem? (i := 12) rfl))) Via.refl e272 f274 (g := (mkF m 81 #[.val (.ref ra), .val (.int (0 : Int32)), .val (.int (0 : Int32)), .val (.int y0), .val (.int ((own_max (0 : Int32) (xm0 - (1 : Int32))) + xm0))] [(.ref ra)])) rfl rfl (hb hby d8_81)
    refine OGo.on st290 ?_
    show OGo p e below s _ _ _ (T290.setTop (mkF m 84 #[.val (.ref ra), .val (.int (0 : Int32)), .val (.int (0 : Int32)), .val (.int y0), .val (.int ((own_max (0 : Int32) (xm0 - (1 : Int32))) + xm0))] [(.ref rk)]))
    refine OGo.on (fun t k => XS.iloadN X290.here hx rfl (hb hby d8_84) rfl k) ?_
    refine OGo.on (fun t k => XS.iinc X290.here hx rfl (hb hby d8_85) rfl (l' := #[.val (.ref ra), .val (.int (1 : Int32)), .val (.int (0 : Int32)), .val (.int y0), .val (.int ((own_max (0 : Int32) (xm0 - (1 : Int32))) + xm0))]) rfl k) ?_
    refine OGo.on (fun t k => XS.iloadN X290.here hx rfl (hb hby d8_88) rfl k) ?_
    show OGo p e below s _ _ _ (T290.setTop (mkF m 89 #[.val (.ref ra), .val (.int (1 : Int32)), .val (.int (0 : Int32)), .val (.int y0), .val (.int ((own_max (0 : Int32) (xm0 - (1 : Int32))) + xm0))] [(.int y0), (.int (0 : Int32)), (.ref rk)]))
    obtain ⟨T291, h291, X291, e291, W291, A291, st291⟩ := OAL.stI X290 hx hZ e290 f285 (j := (0 : Int32)) (x := y0) (by decide) (by (try simp only [List.length_set]); rw [hca]; decide) (Ls := #[.val (.ref ra), .val (.int (1 : Int32)), .val (.int (0 : Int32)), .val (.int y0), .val (.int ((own_max (0 : Int32) (xm0 - (1 : Int32))) + xm0))]) (rest := []) (hb hby d8_89)
    have f292 : Exa Z h291 ra "com/example/slotwright/slotwright/solver/Occupancy" := f273.wr W291
    have f293 : Fld Z h291 ra "com/example/slotwright/slotwright/solver/Occupancy" "clashing" "[I" (.ref rk) := f274.other W291 (Or.inl hD.2.2.2.2.2.2.2.2.2.1)
    have f294 : Fld Z h291 ra "com/example/slotwright/slotwright/solver/Occupancy" "slots" "I" (.int (3 : Int32)) := f275.other W291 (Or.inl hD.2.2.2.2.2.2.2.2.2.1)
    have f295 : Fld Z h291 ra "com/example/slotwright/slotwright/solver/Occupancy" "meetings" "[I" (.ref rm) := f276.other W291 (Or.inl hD.2.2.2.2.2.2.2.2.2.1)
    have f296 : Fld Z h291 ra "com/example/slotwright/slotwright/solver/Occupancy" "closed" "[Z" (.ref rc) := f277.other W291 (Or.inl hD.2.2.2.2.2.2.2.2.2.1)
    have f297 : Fld Z h291 ra "com/example/slotwright/slotwright/solver/Occupancy" "weights" "[I" (.ref rw) := f278.other W291 (Or.inl hD.2.2.2.2.2.2.2.2.2.1)
    have f298 : Fld Z h291 ra "com/example/slotwright/slotwright/solver/Occupancy" "listed" "[Z" (.ref rl) := f279.other W291 (Or.inl hD.2.2.2.2.2.2.2.2.2.1)
    have f299 : Fld Z h291 ra "com/example/slotwright/slotwright/solver/Occupancy" "clashingCount" "I" (.int (1 : Int32)) := f280.other W291 (Or.inl hD.2.2.2.2.2.2.2.2.2.1)
    have f300 : Fld Z h291 ra "com/example/slotwright/slotwright/solver/Occupancy" "weighted" "J" (.long (wd + (((own_max (0 : Int32) (xm0 - (1 : Int32))) + xm0).toInt64))) := f289.other W291 (Or.inl hD.2.2.2.2.2.2.2.2.2.1)
    have f301 : OAL Z h291 rm .int M := f281.other W291 hD.2.2.2.2.2.2.2.2.2.2.2.2.2.1
    have f302 : OAL Z h291 rw .int (Wt.set y0.toNatClampNeg (xw0 + (1 : Int32))) := f282.other W291 hD.2.2.2.2.2.2.2.2.2.2.2.2.2.2.2.2.1
    have f303 : OAL Z h291 rc .boolean Cl := f283.other W291 hD.2.2.2.2.2.2.2.2.2.2.2.2.2.2.2.2.2.2.1
    have f304 : OAL Z h291 rl .boolean Li := f284.other W291 hD.2.2.2.2.2.2.2.2.2.2.2.2.2.2.2.2.2.2.2
    have Z305 : n0 ≤ h291.size := Nat.le_trans Z286 (Nat.le_of_eq W291.size.symm)
    have N306 := Fr.snoc X291 Nh288 hD.2.2.2.2.1
    obtain ⟨Lh307, Xh307, Nh307⟩ := own_hide X291 N306
    have V291 : OAL Z h291 rk .int (Ca.set (0 : Int32).toNatClampNeg y0) := A291
    refine OGo.on st291 ?_
    show OGo p e below s _ _ _ (T291.setTop (mkF m 90 #[.val (.ref ra), .val (.int (1 : Int32)), .val (.int (0 : Int32)), .val (.int y0), .val (.int ((own_max (0 : Int32) (xm0 - (1 : Int32))) + xm0))] []))
    refine OGo.on (fun t k => XS.goto Xh307.here hx rfl (pc0 := 90) (pc' := 100) rfl (hb hby d8_90) (by decide) (by decide) k) ?_
    refine OGo.on (fun t k => XS.iinc Xh307.here hx rfl (hb hby d8_100) rfl (l' := #[.val (.ref ra), .val (.int (1 : Int32)), .val (.int (1 : Int32)), .val (.int y0), .val (.int ((own_max (0 : Int32) (xm0 - (1 : Int32))) + xm0))]) rfl k) ?_
    refine OGo.on (fun t k => XS.goto Xh307.here hx rfl (pc0 := 103) (pc' := 4) rfl (hb hby d8_103) (by decide) (by decide) k) ?_
    refine OGo.on (fun t k => XS.iloadN Xh307.here hx rfl (hb hby d8_4) rfl k) ?_
    show OGo p e below s _ _ _ (T291.setTop (mkF m 5 #[.val (.ref ra), .val (.int (1 : Int32)), .val (.int (1 : Int32)), .val (.int y0), .val (.int ((own_max (0 : Int32) (xm0 - (1 : Int32))) + xm0))] [(.int (1 : Int32))]))
    refine OGo.on (fun t k => XS.aloadN Xh307.here hx rfl (hb hby d8_5) rfl rfl k) ?_
    show OGo p e below s _ _ _ (T291.setTop (mkF m 6 #[.val (.ref ra), .val (.int (1 : Int32)), .val (.int (1 : Int32)), .val (.int y0), .val (.int ((own_max (0 : Int32) (xm0 - (1 : Int32))) + xm0))] [(.ref ra), (.int (1 : Int32))]))
    obtain ⟨T308, X308, e308, st308⟩ := getF Xh307 hx hZ hown (host := "") (Or.inl (hw _ (List.mem_of_getElem? (i := 48) rfl))) Via.refl e291 f299 (g := (mkF m 6 #[.val (.ref ra), .val (.int (1 : Int32)), .val (.int (1 : Int32)), .val (.int y0), .val (.int ((own_max (0 : Int32) (xm0 - (1 : Int32))) + xm0))] [(.ref ra), (.int (1 : Int32))])) rfl rfl (hb hby d8_6)
    refine OGo.on st308 ?_
    show OGo p e below s _ _ _ (T308.setTop (mkF m 9 #[.val (.ref ra), .val (.int (1 : Int32)), .val (.int (1 : Int32)), .val (.int y0), .val (.int ((own_max (0 : Int32) (xm0 - (1 : Int32))) + xm0))] [(.int (1 : Int32)), (.int (1 : Int32))]))
    refine OGo.on (fun t k => XS.icmpYes X308.here hx rfl (pc0 := 9) (pc' := 106) rfl (hb hby d8_9) rfl (flt (by decide)).2.1 (by decide) (by decide) k) ?_
    show OGo p e below s _ _ _ (T308.setTop (mkF m 106 #[.val (.ref ra), .val (.int (1 : Int32)), .val (.int (1 : Int32)), .val (.int y0), .val (.int ((own_max (0 : Int32) (xm0 - (1 : Int32))) + xm0))] []))
    refine OGo.on (fun t k => XS.aloadN X308.here hx rfl (hb hby d8_106) rfl rfl k) ?_
    refine OGo.on (fun t k => XS.iloadN X308.here hx rfl (hb hby d8_107) rfl k) ?_
    show OGo p e below s _ _ _ (T308.setTop (mkF m 108 #[.val (.ref ra), .val (.int (1 : Int32)), .val (.int (1 : Int32)), .val (.int y0), .val (.int ((own_max (0 : Int32) (xm0 - (1 : Int32))) + xm0))] [(.int (1 : Int32)), (.ref ra)]))
    obtain ⟨T309, h309, X309, e309, W309, st309⟩ := putF X308 hx hZ hown (host := "") (Or.inl (hw _ (List.mem_of_getElem? (i := 48) rfl))) Via.refl e308 f299 f292 (Or.inl (hw _ (List.mem_of_getElem? (i := 49) rfl))) (hw _ (List.mem_of_getElem? (i := 3) rfl)) (ty := .int) (by decide) rfl rfl (g := (mkF m 108 #[.val (.ref ra), .val (.int (1 : Int32)), .val (.int (1 : Int32)), .val (.int y0), .val (.int ((own_max (0 : Int32) (xm0 - (1 : Int32))) + xm0))] [(.int (1 : Int32)), (.ref ra)])) rfl rfl (hb hby d8_108)
    have f310 : Exa Z h309 ra "com/example/slotwright/slotwright/solver/Occupancy" := f292.wr W309
    have f311 : Fld Z h309 ra "com/example/slotwright/slotwright/solver/Occupancy" "clashing" "[I" (.ref rk) := f293.other W309 (Or.inr (slot_ne (Or.inl (hw _ (List.mem_of_getElem? (i := 13) rfl))) (Or.inl (hw _ (List.mem_of_getElem? (i := 49) rfl))) (by decide) (t := (.array .int)) (t' := .int) (by decide) (by decide)))
    have f312 : Fld Z h309 ra "com/example/slotwright/slotwright/solver/Occupancy" "slots" "I" (.int (3 : Int32)) := f294.other W309 (Or.inr (slot_ne (Or.inr (hw _ (List.mem_of_getElem? (i := 15) rfl))) (Or.inl (hw _ (List.mem_of_getElem? (i := 49) rfl))) (by decide) (t := .int) (t' := .int) (by decide) (by decide)))
    have f313 : Fld Z h309 ra "com/example/slotwright/slotwright/solver/Occupancy" "meetings" "[I" (.ref rm) := f295.other W309 (Or.inr (slot_ne (Or.inr (hw _ (List.mem_of_getElem? (i := 22) rfl))) (Or.inl (hw _ (List.mem_of_getElem? (i := 49) rfl))) (by decide) (t := (.array .int)) (t' := .int) (by decide) (by decide)))
    have f314 : Fld Z h309 ra "com/example/slotwright/slotwright/solver/Occupancy" "closed" "[Z" (.ref rc) := f296.other W309 (Or.inr (slot_ne (Or.inr (hw _ (List.mem_of_getElem? (i := 24) rfl))) (Or.inl (hw _ (List.mem_of_getElem? (i := 49) rfl))) (by decide) (t := (.array .boolean)) (t' := .int) (by decide) (by decide)))
    have f315 : Fld Z h309 ra "com/example/slotwright/slotwright/solver/Occupancy" "weights" "[I" (.ref rw) := f297.other W309 (Or.inr (slot_ne (Or.inr (hw _ (List.mem_of_getElem? (i := 33) rfl))) (Or.inl (hw _ (List.mem_of_getElem? (i := 49) rfl))) (by decide) (t := (.array .int)) (t' := .int) (by decide) (by decide)))
    have f316 : Fld Z h309 ra "com/example/slotwright/slotwright/solver/Occupancy" "listed" "[Z" (.ref rl) := f298.other W309 (Or.inr (slot_ne (Or.inr (hw _ (List.mem_of_getElem? (i := 35) rfl))) (Or.inl (hw _ (List.mem_of_getElem? (i := 49) rfl))) (by decide) (t := (.array .boolean)) (t' := .int) (by decide) (by decide)))
    have f317 : Fld Z h309 ra "com/example/slotwright/slotwright/solver/Occupancy" "weighted" "J" (.long (wd + (((own_max (0 : Int32) (xm0 - (1 : Int32))) + xm0).toInt64))) := f300.other W309 (Or.inr (slot_ne (Or.inl (hw _ (List.mem_of_getElem? (i := 47) rfl))) (Or.inl (hw _ (List.mem_of_getElem? (i := 49) rfl))) (by decide) (t := .long) (t' := .int) (by decide) (by decide)))
    have f318 : OAL Z h309 rm .int M := f301.other W309 (Ne.symm hD.2.2.2.2.2.1)
    have f319 : OAL Z h309 rw .int (Wt.set y0.toNatClampNeg (xw0 + (1 : Int32))) := f302.other W309 (Ne.symm hD.2.2.2.2.2.2.1)
    have f320 : OAL Z h309 rc .boolean Cl := f303.other W309 (Ne.symm hD.2.2.2.2.2.2.2.1)
    have f321 : OAL Z h309 rl .boolean Li := f304.other W309 (Ne.symm hD.2.2.2.2.2.2.2.2.1)
    have f322 : OAL Z h309 rk .int (Ca.set (0 : Int32).toNatClampNeg y0) := V291.other W309 (Ne.symm hD.2.2.2.2.2.2.2.2.2.1)
    have Z323 : n0 ≤ h309.size := Nat.le_trans Z305 (Nat.le_of_eq W309.size.symm)
    have N324 := Fr.snoc X309 Nh307 hD.1
    obtain ⟨Lh325, Xh325, Nh325⟩ := own_hide X309 N324
    have f326 : Fld Z h309 ra "com/example/slotwright/slotwright/solver/Occupancy" "clashingCount" "I" (.int (1 : Int32)) := f299.same W309
    refine OGo.on st309 ?_
    show OGo p e below s _ _ _ (T309.setTop (mkF m 111 #[.val (.ref ra), .val (.int (1 : Int32)), .val (.int (1 : Int32)), .val (.int y0), .val (.int ((own_max (0 : Int32) (xm0 - (1 : Int32))) + xm0))] []))
    exact OGo.ret0 Xh325 hx hret hlk (hb hby d8_111) ⟨rfl, Nh325, by rw [e309]; exact Z323, by rw [e309]; exact ⟨f310, f311, f312, f313, f314, f315, f316, f326, ⟨_, f317⟩, f318, f319, f320, f321, f322⟩⟩ (by decide) (by decide)
def Q_own_raise2 (Z : State) (ra rm rw rc rl rk : Addr) (M Wt Cl Li Ca : List Int32) (y0 xm0 xc0 xw0 : Int32) (y1 xm1 xc1 xw1 : Int32)  (h0 : Heap) (n0 : Nat) (v : Option Value) (h : Heap) (L : List Loc) : Prop := v = none ∧ Fr n0 L ∧ n0 ≤ h.size ∧ OCC Z h ra rm rw rc rl rk M ((Wt.set y0.toNatClampNeg (xw0 + 1)).set y1.toNatClampNeg (xw1 + 1)) Cl Li ((Ca.set (0 : Int32).toNatClampNeg y0).set (1 : Int32).toNatClampNeg y1) (2 : Int32)
theorem ef_own_raise2 (m : MethodId) (x0 : Addr) : entryFrame m #[(.ref x0)] 5 = mkF m 0 #[.val (.ref x0), .unset, .unset, .unset, .unset] [] := by first | (simp [entryFrame, mkF, argsToLocals, Value.category]; done) | rfl
set_option maxRecDepth 65536 in
set_option maxHeartbeats 40000000 in
theorem own_raise2 (l : Launch) (Z : State) (a0 : Array Value) (hw : ∀ d ∈ tables_1, d.before a0 Z = true) (ws : List Jvm.Cond) (ra rm rw rc rl rk : Addr) (M Wt Cl Li Ca : List Int32) (y0 xm0 xc0 xw0 : Int32) (y1 xm1 xc1 xw1 : Int32)  (h0 : Heap) (n0 : Nat) (Z0 : n0 ≤ h0.size) (hD : OAD n0 ra rm rw rc rl rk) (O : OCC Z h0 ra rm rw rc rl rk M Wt Cl Li Ca (2 : Int32)) (hca : Ca.length = 16) (qa0 : OAt Ca (0 : Int32) y0) (qm0 : OAt M y0 xm0) (qc0 : OAt Cl y0 xc0) (qw0 : OAt Wt y0 xw0) (hz0 : 0 < own_cnt xm0 xc0) (qa1 : OAt Ca (1 : Int32) y1) (qm1 : OAt M y1 xm1) (qc1 : OAt Cl y1 xc1) (qw1 : OAt (Wt.set y0.toNatClampNeg (xw0 + 1)) y1 xw1) (hz1 : 0 < own_cnt xm1 xc1)  :
    MetFree l (⟨"com/example/slotwright/slotwright/solver/Occupancy", "raiseWeights", "()V"⟩ : MethodName) (head1 (Jvm.Cond.code (⟨"com/example/slotwright/slotwright/solver/Occupancy", "raiseWeights", "()V"⟩ : MethodName) prog_60_method_8_code 5 none :: ws) ({ frames := 1, cells := 0, slots := 0, locals := 13 } : Room)) (fun a U => a = #[(.ref ra)] ∧ Z.Warmed39 U.vm ∧ U.heap = h0) (fun _ _ _ _ _ => True) (fun _ U o U' => ∃ v L, o = .returned v ∧ (Q_own_raise2 Z ra rm rw rc rl rk M Wt Cl Li Ca y0 xm0 xc0 xw0 y1 xm1 xc1 xw1 h0 n0) v U'.heap L ∧ FrameEnd U o U' L ({ frames := 1, cells := 0, slots := 0, locals := 13 } : Room).cells ({ frames := 1, cells := 0, slots := 0, locals := 13 } : Room).slots) := by
  refine MetFree.of_bodySF (plainFor_of_name own_pn0) hisR ?_
  intro p e s m args below meth c s₁ Bd hml0 hP hK
  obtain ⟨rfl, hZ, hh⟩ := hP
  have hx := Bd.exec
  have hby := Bd.bytes
  have hret := Bd.returns
  have hlk : meth.locks = false := Bd.notSynchronized
  have hml : c.maxLocals = 5 := hml0
  have hown : s.vm.findClass "com/example/slotwright/slotwright/solver/Occupancy" = some m.cls := findClass_of_methodNamed Bd.named
  have hnm := (name_of_methodNamed Bd.named Bd.method).1
  have X0 : Stand p l e ({ frames := 1, cells := 0, slots := 0, locals := 13 } : Room) s m #[(.ref ra)] below meth c s₁ [] 0 0 := Stand.of_body Bd
  have e0 : s₁.heap = h0 := by rw [← hh, Bd.state]; rfl
  have N0 := Fr.nil n0
  have pre0 : ∀ t, Steps p.tables e below (s₁.setTop (mkF m 0 #[.val (.ref ra), .unset, .unset, .unset, .unset] [])) t → Steps p.tables e below (s₁.setTop (entryFrame m #[(.ref ra)] 5)) t := fun t k => castTop (ef_own_raise2 m ra) k
  show OGo p e below s (Q_own_raise2 Z ra rm rw rc rl rk M Wt Cl Li Ca y0 xm0 xc0 xw0 y1 xm1 xc1 xw1 h0 n0) ({ frames := 1, cells := 0, slots := 0, locals := 13 } : Room).cells ({ frames := 1, cells := 0, slots := 0, locals := 13 } : Room).slots (s₁.setTop (entryFrame m #[(.ref ra)] 5))
  refine OGo.on pre0 ?_
  show OGo p e below s _ _ _ (s₁.setTop (mkF m 0 #[.val (.ref ra), .unset, .unset, .unset, .unset] []))
  obtain ⟨E_o, F_clashing, F_slots, F_meetings, F_closed, F_weights, F_listed, F_clashingCount, ⟨wd, F_weighted⟩, A_m, A_w, A_c, A_l, A_k⟩ := O
  refine OGo.on (fun t k => XS.iconst X0.here hx rfl (hb hby d8_0) k) ?_
  refine OGo.on (fun t k => XS.istoreN X0.here hx rfl (hb hby d8_1) rfl (l' := #[.val (.ref ra), .val (.int (0 : Int32)), .unset, .unset, .unset]) rfl k) ?_
  refine OGo.on (fun t k => XS.iconst X0.here hx rfl (hb hby d8_2) k) ?_
  refine OGo.on (fun t k => XS.istoreN X0.here hx rfl (hb hby d8_3) rfl (l' := #[.val (.ref ra), .val (.int (0 : Int32)), .val (.int (0 : Int32)), .unset, .unset]) rfl k) ?_
  show OGo p e below s _ _ _ (s₁.setTop (mkF m 4 #[.val (.ref ra), .val (.int (0 : Int32)), .val (.int (0 : Int32)), .unset, .unset] []))
  refine OGo.on (fun t k => XS.iloadN X0.here hx rfl (hb hby d8_4) rfl k) ?_
  refine OGo.on (fun t k => XS.aloadN X0.here hx rfl (hb hby d8_5) rfl rfl k) ?_
  show OGo p e below s _ _ _ (s₁.setTop (mkF m 6 #[.val (.ref ra), .val (.int (0 : Int32)), .val (.int (0 : Int32)), .unset, .unset] [(.ref ra), (.int (0 : Int32))]))
  obtain ⟨T327, X327, e327, st327⟩ := getF X0 hx hZ hown (host := "") (Or.inl (hw _ (List.mem_of_getElem? (i := 48) rfl))) Via.refl e0 F_clashingCount (g := (mkF m 6 #[.val (.ref ra), .val (.int (0 : Int32)), .val (.int (0 : Int32)), .unset, .unset] [(.ref ra), (.int (0 : Int32))])) rfl rfl (hb hby d8_6)
  refine OGo.on st327 ?_
  show OGo p e below s _ _ _ (T327.setTop (mkF m 9 #[.val (.ref ra), .val (.int (0 : Int32)), .val (.int (0 : Int32)), .unset, .unset] [(.int (2 : Int32)), (.int (0 : Int32))]))
  refine OGo.on (fun t k => XS.icmpNo X327.here hx rfl (hb hby d8_9) rfl (tlt (by decide)).2.1 k) ?_
  show OGo p e below s _ _ _ (T327.setTop (mkF m 12 #[.val (.ref ra), .val (.int (0 : Int32)), .val (.int (0 : Int32)), .unset, .unset] []))
  refine OGo.on (fun t k => XS.aloadN X327.here hx rfl (hb hby d8_12) rfl rfl k) ?_
  show OGo p e below s _ _ _ (T327.setTop (mkF m 13 #[.val (.ref ra), .val (.int (0 : Int32)), .val (.int (0 : Int32)), .unset, .unset] [(.ref ra)]))
  obtain ⟨T328, X328, e328, st328⟩ := getF X327 hx hZ hown (host := "") (Or.inl (hw _ (List.mem_of_getElem? (i := 12) rfl))) Via.refl e327 F_clashing (g := (mkF m 13 #[.val (.ref ra), .val (.int (0 : Int32)), .val (.int (0 : Int32)), .unset, .unset] [(.ref ra)])) rfl rfl (hb hby d8_13)
  refine OGo.on st328 ?_
  show OGo p e below s _ _ _ (T328.setTop (mkF m 16 #[.val (.ref ra), .val (.int (0 : Int32)), .val (.int (0 : Int32)), .unset, .unset] [(.ref rk)]))
  refine OGo.on (fun t k => XS.iloadN X328.here hx rfl (hb hby d8_16) rfl k) ?_
  show OGo p e below s _ _ _ (T328.setTop (mkF m 17 #[.val (.ref ra), .val (.int (0 : Int32)), .val (.int (0 : Int32)), .unset, .unset] [(.int (0 : Int32)), (.ref rk)]))
  refine OGo.on (fun t k => OAL.ia X328 hx hZ e328 A_k qa0 (hb hby d8_17) k) ?_
  show OGo p e below s _ _ _ (T328.setTop (mkF m 18 #[.val (.ref ra), .val (.int (0 : Int32)), .val (.int (0 : Int32)), .unset, .unset] [(.int y0)]))
  refine OGo.on (fun t k => XS.istoreN X328.here hx rfl (hb hby d8_18) rfl (l' := #[.val (.ref ra), .val (.int (0 : Int32)), .val (.int (0 : Int32)), .val (.int y0), .unset]) rfl k) ?_
  refine OGo.on (fun t k => XS.iconst X328.here hx rfl (hb hby d8_19) k) ?_
  refine OGo.on (fun t k => XS.aloadN X328.here hx rfl (hb hby d8_20) rfl rfl k) ?_
  show OGo p e below s _ _ _ (T328.setTop (mkF m 21 #[.val (.ref ra), .val (.int (0 : Int32)), .val (.int (0 : Int32)), .val (.int y0), .unset] [(.ref ra), (.int (0 : Int32))]))
  obtain ⟨T329, X329, e329, st329⟩ := getF X328 hx hZ hown (host := "") (Or.inl (hw _ (List.mem_of_getElem? (i := 21) rfl))) Via.refl e328 F_meetings (g := (mkF m 21 #[.val (.ref ra), .val (.int (0 : Int32)), .val (.int (0 : Int32)), .val (.int y0), .unset] [(.ref ra), (.int (0 : Int32))])) rfl rfl (hb hby d8_21)
  refine OGo.on st329 ?_
  show OGo p e below s _ _ _ (T329.setTop (mkF m 24 #[.val (.ref ra), .val (.int (0 : Int32)), .val (.int (0 : Int32)), .val (.int y0), .unset] [(.ref rm), (.int (0 : Int32))]))
  refine OGo.on (fun t k => XS.iloadN X329.here hx rfl (hb hby d8_24) rfl k) ?_
  show OGo p e below s _ _ _ (T329.setTop (mkF m 25 #[.val (.ref ra), .val (.int (0 : Int32)), .val (.int (0 : Int32)), .val (.int y0), .unset] [(.int y0), (.ref rm), (.int (0 : Int32))]))
  refine OGo.on (fun t k => OAL.ia X329 hx hZ e329 A_m qm0 (hb hby d8_25) k) ?_
  show OGo p e below s _ _ _ (T329.setTop (mkF m 26 #[.val (.ref ra), .val (.int (0 : Int32)), .val (.int (0 : Int32)), .val (.int y0), .unset] [(.int xm0), (.int (0 : Int32))]))
  refine OGo.on (fun t k => XS.iconst X329.here hx rfl (hb hby d8_26) k) ?_
  refine OGo.on (fun t k => XS.isub X329.here hx rfl (hb hby d8_27) rfl k) ?_
  show OGo p e below s _ _ _ (T329.setTop (mkF m 28 #[.val (.ref ra), .val (.int (0 : Int32)), .val (.int (0 : Int32)), .val (.int y0), .unset] [(.int (xm0 - (1 : Int32))), (.int (0 : Int32))]))
  obtain ⟨_, _, ⟨T330, L330, k330, n330⟩, -, X330, ⟨Lc330, hQ330, l330, y330, z330⟩, st330⟩ := Jvm.LawKit.callS X329 hx (y := (⟨"java/lang/Math", "max", "(II)I"⟩ : MethodName)) hown (mvT hZ (hw _ (List.mem_of_getElem? (i := 55) rfl))) (mvT hZ (hw _ (List.mem_of_getElem? (i := 56) rfl))) (mvT hZ (hw _ (List.mem_of_getElem? (i := 57) rfl))) (mvT hZ (hw _ (List.mem_of_getElem? (i := 58) rfl))) (by decide) (backOf (W := 0) (own_mmax l Z a0 hw [] (0 : Int32) (xm0 - (1 : Int32)) h0 n0 Z0) hZ (hw _ (List.mem_of_getElem? (i := 58) rfl)) (hw _ (List.mem_of_getElem? (i := 57) rfl)) (by decide) (by decide)) (g := (mkF m 28 #[.val (.ref ra), .val (.int (0 : Int32)), .val (.int (0 : Int32)), .val (.int y0), .unset] [(.int (xm0 - (1 : Int32))), (.int (0 : Int32))])) rfl (by rw [hml]; rfl) (argsL := [(.int (0 : Int32)), (.int (xm0 - (1 : Int32)))]) (rest := []) (lenOf own_pd1 rfl) rfl (by show 2 * 0 + _ ≤ _; exact Nat.le_of_eq rfl) (hb hby d8_28) (fun _ _ => ⟨rfl, e329, (by decide : 0 + 0 ≤ _), (by decide : 0 + 0 ≤ _)⟩)
  dsimp only [Pt.U, Pt.locs, Pt.cells, Pt.slots] at X330 l330 y330 z330 st330 hQ330
  subst l330 y330 z330
  obtain ⟨rfl, N330q, e330⟩ := hQ330
  have N330 := Fr.app N0 N330q
  obtain ⟨Lh331, Xh331, Nh331⟩ := own_hide X330 N330
  refine OGo.on st330 ?_
  show OGo p e below s _ _ _ (T330.setTop (mkF m 31 #[.val (.ref ra), .val (.int (0 : Int32)), .val (.int (0 : Int32)), .val (.int y0), .unset] [(.int (own_max (0 : Int32) (xm0 - (1 : Int32))))]))
  refine OGo.on (fun t k => XS.aloadN Xh331.here hx rfl (hb hby d8_31) rfl rfl k) ?_
  show OGo p e below s _ _ _ (T330.setTop (mkF m 32 #[.val (.ref ra), .val (.int (0 : Int32)), .val (.int (0 : Int32)), .val (.int y0), .unset] [(.ref ra), (.int (own_max (0 : Int32) (xm0 - (1 : Int32))))]))
  obtain ⟨T332, X332, e332, st332⟩ := getF Xh331 hx hZ hown (host := "") (Or.inl (hw _ (List.mem_of_getElem? (i := 23) rfl))) Via.refl e330 F_closed (g := (mkF m 32 #[.val (.ref ra), .val (.int (0 : Int32)), .val (.int (0 : Int32)), .val (.int y0), .unset] [(.ref ra), (.int (own_max (0 : Int32) (xm0 - (1 : Int32))))])) rfl rfl (hb hby d8_32)
  refine OGo.on st332 ?_
  show OGo p e below s _ _ _ (T332.setTop (mkF m 35 #[.val (.ref ra), .val (.int (0 : Int32)), .val (.int (0 : Int32)), .val (.int y0), .unset] [(.ref rc), (.int (own_max (0 : Int32) (xm0 - (1 : Int32))))]))
  refine OGo.on (fun t k => XS.iloadN X332.here hx rfl (hb hby d8_35) rfl k) ?_
  show OGo p e below s _ _ _ (T332.setTop (mkF m 36 #[.val (.ref ra), .val (.int (0 : Int32)), .val (.int (0 : Int32)), .val (.int y0), .unset] [(.int y0), (.ref rc), (.int (own_max (0 : Int32) (xm0 - (1 : Int32))))]))
  refine OGo.on (fun t k => OAL.baZ X332 hx hZ e332 A_c qc0 (hb hby d8_36) k) ?_
  show OGo p e below s _ _ _ (T332.setTop (mkF m 37 #[.val (.ref ra), .val (.int (0 : Int32)), .val (.int (0 : Int32)), .val (.int y0), .unset] [(.int xc0), (.int (own_max (0 : Int32) (xm0 - (1 : Int32))))]))
  by_cases hc333 : xc0 = (0 : Int32)
  · refine OGo.on (fun t k => XS.ifYes X332.here hx rfl (pc0 := 37) (pc' := 49) rfl (hb hby d8_37) rfl ((if0 _ _).trans (teq hc333).1) (by decide) (by decide) k) ?_
    show OGo p e below s _ _ _ (T332.setTop (mkF m 49 #[.val (.ref ra), .val (.int (0 : Int32)), .val (.int (0 : Int32)), .val (.int y0), .unset] [(.int (own_max (0 : Int32) (xm0 - (1 : Int32))))]))
    refine OGo.on (fun t k => XS.iconst X332.here hx rfl (hb hby d8_49) k) ?_
    refine OGo.on (fun t k => XS.iadd X332.here hx rfl (hb hby d8_50) rfl k) ?_
    refine OGo.on (fun t k => XS.istore X332.here hx rfl (hb hby d8_51) rfl (l' := #[.val (.ref ra), .val (.int (0 : Int32)), .val (.int (0 : Int32)), .val (.int y0), .val (.int ((own_max (0 : Int32) (xm0 - (1 : Int32))) + (0 : Int32)))]) rfl k) ?_
    refine OGo.on (fun t k => XS.iload X332.here hx rfl (hb hby d8_53) rfl k) ?_
    show OGo p e below s _ _ _ (T332.setTop (mkF m 55 #[.val (.ref ra), .val (.int (0 : Int32)), .val (.int (0 : Int32)), .val (.int y0), .val (.int ((own_max (0 : Int32) (xm0 - (1 : Int32))) + (0 : Int32)))] [(.int ((own_max (0 : Int32) (xm0 - (1 : Int32))) + (0 : Int32)))]))
    refine OGo.on (fun t k => XS.ifNo X332.here hx rfl (hb hby d8_55) rfl ((if0 _ _).trans (tlt (by have z := hz0; unfold own_cnt at z; rw [if_pos hc333] at z; exact z)).2.2.2) k) ?_
    show OGo p e below s _ _ _ (T332.setTop (mkF m 58 #[.val (.ref ra), .val (.int (0 : Int32)), .val (.int (0 : Int32)), .val (.int y0), .val (.int ((own_max (0 : Int32) (xm0 - (1 : Int32))) + (0 : Int32)))] []))
    refine OGo.on (fun t k => XS.aloadN X332.here hx rfl (hb hby d8_58) rfl rfl k) ?_
    show OGo p e below s _ _ _ (T332.setTop (mkF m 59 #[.val (.ref ra), .val (.int (0 : Int32)), .val (.int (0 : Int32)), .val (.int y0), .val (.int ((own_max (0 : Int32) (xm0 - (1 : Int32))) + (0 : Int32)))] [(.ref ra)]))
    obtain ⟨T334, X334, e334, st334⟩ := getF X332 hx hZ hown (host := "") (Or.inl (hw _ (List.mem_of_getElem? (i := 32) rfl))) Via.refl e332 F_weights (g := (mkF m 59 #[.val (.ref ra), .val (.int (0 : Int32)), .val (.int (0 : Int32)), .val (.int y0), .val (.int ((own_max (0 : Int32) (xm0 - (1 : Int32))) + (0 : Int32)))] [(.ref ra)])) rfl rfl (hb hby d8_59)
    refine OGo.on st334 ?_
    show OGo p e below s _ _ _ (T334.setTop (mkF m 62 #[.val (.ref ra), .val (.int (0 : Int32)), .val (.int (0 : Int32)), .val (.int y0), .val (.int ((own_max (0 : Int32) (xm0 - (1 : Int32))) + (0 : Int32)))] [(.ref rw)]))
    refine OGo.on (fun t k => XS.iloadN X334.here hx rfl (hb hby d8_62) rfl k) ?_
    show OGo p e below s _ _ _ (T334.setTop (mkF m 63 #[.val (.ref ra), .val (.int (0 : Int32)), .val (.int (0 : Int32)), .val (.int y0), .val (.int ((own_max (0 : Int32) (xm0 - (1 : Int32))) + (0 : Int32)))] [(.int y0), (.ref rw)]))
    refine OGo.on (fun t k => XT.dup2 X334.here hx rfl (hb hby d8_63) rfl rfl rfl k) ?_
    show OGo p e below s _ _ _ (T334.setTop (mkF m 64 #[.val (.ref ra), .val (.int (0 : Int32)), .val (.int (0 : Int32)), .val (.int y0), .val (.int ((own_max (0 : Int32) (xm0 - (1 : Int32))) + (0 : Int32)))] [(.int y0), (.ref rw), (.int y0), (.ref rw)]))
    refine OGo.on (fun t k => OAL.ia X334 hx hZ e334 A_w qw0 (hb hby d8_64) k) ?_
    show OGo p e below s _ _ _ (T334.setTop (mkF m 65 #[.val (.ref ra), .val (.int (0 : Int32)), .val (.int (0 : Int32)), .val (.int y0), .val (.int ((own_max (0 : Int32) (xm0 - (1 : Int32))) + (0 : Int32)))] [(.int xw0), (.int y0), (.ref rw)]))
    refine OGo.on (fun t k => XS.iconst X334.here hx rfl (hb hby d8_65) k) ?_
    refine OGo.on (fun t k => XS.iadd X334.here hx rfl (hb hby d8_66) rfl k) ?_
    show OGo p e below s _ _ _ (T334.setTop (mkF m 67 #[.val (.ref ra), .val (.int (0 : Int32)), .val (.int (0 : Int32)), .val (.int y0), .val (.int ((own_max (0 : Int32) (xm0 - (1 : Int32))) + (0 : Int32)))] [(.int (xw0 + (1 : Int32))), (.int y0), (.ref rw)]))
    obtain ⟨T335, h335, X335, e335, W335, A335, st335⟩ := OAL.stI X334 hx hZ e334 A_w (j := y0) (x := (xw0 + (1 : Int32))) qw0.1 (oat_lt qw0) (Ls := #[.val (.ref ra), .val (.int (0 : Int32)), .val (.int (0 : Int32)), .val (.int y0), .val (.int ((own_max (0 : Int32) (xm0 - (1 : Int32))) + (0 : Int32)))]) (rest := []) (hb hby d8_67)
    have f336 : Exa Z h335 ra "com/example/slotwright/slotwright/solver/Occupancy" := E_o.wr W335
    have f337 : Fld Z h335 ra "com/example/slotwright/slotwright/solver/Occupancy" "clashing" "[I" (.ref rk) := F_clashing.other W335 (Or.inl hD.2.2.2.2.2.2.1)
    have f338 : Fld Z h335 ra "com/example/slotwright/slotwright/solver/Occupancy" "slots" "I" (.int (3 : Int32)) := F_slots.other W335 (Or.inl hD.2.2.2.2.2.2.1)
    have f339 : Fld Z h335 ra "com/example/slotwright/slotwright/solver/Occupancy" "meetings" "[I" (.ref rm) := F_meetings.other W335 (Or.inl hD.2.2.2.2.2.2.1)
    have f340 : Fld Z h335 ra "com/example/slotwright/slotwright/solver/Occupancy" "closed" "[Z" (.ref rc) := F_closed.other W335 (Or.inl hD.2.2.2.2.2.2.1)
    have f341 : Fld Z h335 ra "com/example/slotwright/slotwright/solver/Occupancy" "weights" "[I" (.ref rw) := F_weights.other W335 (Or.inl hD.2.2.2.2.2.2.1)
    have f342 : Fld Z h335 ra "com/example/slotwright/slotwright/solver/Occupancy" "listed" "[Z" (.ref rl) := F_listed.other W335 (Or.inl hD.2.2.2.2.2.2.1)
    have f343 : Fld Z h335 ra "com/example/slotwright/slotwright/solver/Occupancy" "clashingCount" "I" (.int (2 : Int32)) := F_clashingCount.other W335 (Or.inl hD.2.2.2.2.2.2.1)
    have f344 : Fld Z h335 ra "com/example/slotwright/slotwright/solver/Occupancy" "weighted" "J" (.long wd) := F_weighted.other W335 (Or.inl hD.2.2.2.2.2.2.1)
    have f345 : OAL Z h335 rm .int M := A_m.other W335 hD.2.2.2.2.2.2.2.2.2.2.1
    have f346 : OAL Z h335 rc .boolean Cl := A_c.other W335 (Ne.symm hD.2.2.2.2.2.2.2.2.2.2.2.2.2.2.1)
    have f347 : OAL Z h335 rl .boolean Li := A_l.other W335 (Ne.symm hD.2.2.2.2.2.2.2.2.2.2.2.2.2.2.2.1)
    have f348 : OAL Z h335 rk .int Ca := A_k.other W335 (Ne.symm hD.2.2.2.2.2.2.2.2.2.2.2.2.2.2.2.2.1)
    have Z349 : n0 ≤ h335.size := Nat.le_trans Z0 (Nat.le_of_eq W335.size.symm)
    have N350 := Fr.snoc X335 Nh331 hD.2.2.1
    obtain ⟨Lh351, Xh351, Nh351⟩ := own_hide X335 N350
    have V335 : OAL Z h335 rw .int (Wt.set y0.toNatClampNeg (xw0 + (1 : Int32))) := A335
    refine OGo.on st335 ?_
    show OGo p e below s _ _ _ (T335.setTop (mkF m 68 #[.val (.ref ra), .val (.int (0 : Int32)), .val (.int (0 : Int32)), .val (.int y0), .val (.int ((own_max (0 : Int32) (xm0 - (1 : Int32))) + (0 : Int32)))] []))
    refine OGo.on (fun t k => XS.aloadN Xh351.here hx rfl (hb hby d8_68) rfl rfl k) ?_
    refine OGo.on (fun t k => XS.dup Xh351.here hx rfl (hb hby d8_69) rfl rfl k) ?_
    show OGo p e below s _ _ _ (T335.setTop (mkF m 70 #[.val (.ref ra), .val (.int (0 : Int32)), .val (.int (0 : Int32)), .val (.int y0), .val (.int ((own_max (0 : Int32) (xm0 - (1 : Int32))) + (0 : Int32)))] [(.ref ra), (.ref ra)]))
    obtain ⟨T352, X352, e352, st352⟩ := getF Xh351 hx hZ hown (host := "") (Or.inl (hw _ (List.mem_of_getElem? (i := 46) rfl))) Via.refl e335 f344 (g := (mkF m 70 #[.val (.ref ra), .val (.int (0 : Int32)), .val (.int (0 : Int32)), .val (.int y0), .val (.int ((own_max (0 : Int32) (xm0 - (1 : Int32))) + (0 : Int32)))] [(.ref ra), (.ref ra)])) rfl rfl (hb hby d8_70)
    refine OGo.on st352 ?_
    show OGo p e below s _ _ _ (T352.setTop (mkF m 73 #[.val (.ref ra), .val (.int (0 : Int32)), .val (.int (0 : Int32)), .val (.int y0), .val (.int ((own_max (0 : Int32) (xm0 - (1 : Int32))) + (0 : Int32)))] [(.long wd), (.ref ra)]))
    refine OGo.on (fun t k => XS.iload X352.here hx rfl (hb hby d8_73) rfl k) ?_
    refine OGo.on (fun t k => XS.i2l X352.here hx rfl (hb hby d8_75) rfl k) ?_
    refine OGo.on (fun t k => XS.ladd X352.here hx rfl (hb hby d8_76) rfl k) ?_
    show OGo p e below s _ _ _ (T352.setTop (mkF m 77 #[.val (.ref ra), .val (.int (0 : Int32)), .val (.int (0 : Int32)), .val (.int y0), .val (.int ((own_max (0 : Int32) (xm0 - (1 : Int32))) + (0 : Int32)))] [(.long (wd + (((own_max (0 : Int32) (xm0 - (1 : Int32))) + (0 : Int32)).toInt64))), (.ref ra)]))
    obtain ⟨T353, h353, X353, e353, W353, st353⟩ := putF X352 hx hZ hown (host := "") (Or.inl (hw _ (List.mem_of_getElem? (i := 46) rfl))) Via.refl e352 f344 f336 (Or.inl (hw _ (List.mem_of_getElem? (i := 47) rfl))) (hw _ (List.mem_of_getElem? (i := 3) rfl)) (ty := .long) (by decide) rfl rfl (g := (mkF m 77 #[.val (.ref ra), .val (.int (0 : Int32)), .val (.int (0 : Int32)), .val (.int y0), .val (.int ((own_max (0 : Int32) (xm0 - (1 : Int32))) + (0 : Int32)))] [(.long (wd + (((own_max (0 : Int32) (xm0 - (1 : Int32))) + (0 : Int32)).toInt64))), (.ref ra)])) rfl rfl (hb hby d8_77)
    have f354 : Exa Z h353 ra "com/example/slotwright/slotwright/solver/Occupancy" := f336.wr W353
    have f355 : Fld Z h353 ra "com/example/slotwright/slotwright/solver/Occupancy" "clashing" "[I" (.ref rk) := f337.other W353 (Or.inr (slot_ne (Or.inl (hw _ (List.mem_of_getElem? (i := 13) rfl))) (Or.inl (hw _ (List.mem_of_getElem? (i := 47) rfl))) (by decide) (t := (.array .int)) (t' := .long) (by decide) (by decide)))
    have f356 : Fld Z h353 ra "com/example/slotwright/slotwright/solver/Occupancy" "slots" "I" (.int (3 : Int32)) := f338.other W353 (Or.inr (slot_ne (Or.inr (hw _ (List.mem_of_getElem? (i := 15) rfl))) (Or.inl (hw _ (List.mem_of_getElem? (i := 47) rfl))) (by decide) (t := .int) (t' := .long) (by decide) (by decide)))
    have f357 : Fld Z h353 ra "com/example/slotwright/slotwright/solver/Occupancy" "meetings" "[I" (.ref rm) := f339.other W353 (Or.inr (slot_ne (Or.inr (hw _ (List.mem_of_getElem? (i := 22) rfl))) (Or.inl (hw _ (List.mem_of_getElem? (i := 47) rfl))) (by decide) (t := (.array .int)) (t' := .long) (by decide) (by decide)))
    have f358 : Fld Z h353 ra "com/example/slotwright/slotwright/solver/Occupancy" "closed" "[Z" (.ref rc) := f340.other W353 (Or.inr (slot_ne (Or.inr (hw _ (List.mem_of_getElem? (i := 24) rfl))) (Or.inl (hw _ (List.mem_of_getElem? (i := 47) rfl))) (by decide) (t := (.array .boolean)) (t' := .long) (by decide) (by decide)))
    have f359 : Fld Z h353 ra "com/example/slotwright/slotwright/solver/Occupancy" "weights" "[I" (.ref rw) := f341.other W353 (Or.inr (slot_ne (Or.inr (hw _ (List.mem_of_getElem? (i := 33) rfl))) (Or.inl (hw _ (List.mem_of_getElem? (i := 47) rfl))) (by decide) (t := (.array .int)) (t' := .long) (by decide) (by decide)))
    have f360 : Fld Z h353 ra "com/example/slotwright/slotwright/solver/Occupancy" "listed" "[Z" (.ref rl) := f342.other W353 (Or.inr (slot_ne (Or.inr (hw _ (List.mem_of_getElem? (i := 35) rfl))) (Or.inl (hw _ (List.mem_of_getElem? (i := 47) rfl))) (by decide) (t := (.array .boolean)) (t' := .long) (by decide) (by decide)))
    have f361 : Fld Z h353 ra "com/example/slotwright/slotwright/solver/Occupancy" "clashingCount" "I" (.int (2 : Int32)) := f343.other W353 (Or.inr (slot_ne (Or.inl (hw _ (List.mem_of_getElem? (i := 49) rfl))) (Or.inl (hw _ (List.mem_of_getElem? (i := 47) rfl))) (by decide) (t := .int) (t' := .long) (by decide) (by decide)))
    have f362 : OAL Z h353 rm .int M := f345.other W353 (Ne.symm hD.2.2.2.2.2.1)
    have f363 : OAL Z h353 rw .int (Wt.set y0.toNatClampNeg (xw0 + (1 : Int32))) := V335.other W353 (Ne.symm hD.2.2.2.2.2.2.1)
    have f364 : OAL Z h353 rc .boolean Cl := f346.other W353 (Ne.symm hD.2.2.2.2.2.2.2.1)
    have f365 : OAL Z h353 rl .boolean Li := f347.other W353 (Ne.symm hD.2.2.2.2.2.2.2.2.1)
    have f366 : OAL Z h353 rk .int Ca := f348.other W353 (Ne.symm hD.2.2.2.2.2.2.2.2.2.1)
    have Z367 : n0 ≤ h353.size := Nat.le_trans Z349 (Nat.le_of_eq W353.size.symm)
    have N368 := Fr.snoc X353 Nh351 hD.1
    obtain ⟨Lh369, Xh369, Nh369⟩ := own_hide X353 N368
    have f370 : Fld Z h353 ra "com/example/slotwright/slotwright/solver/Occupancy" "weighted" "J" (.long (wd + (((own_max (0 : Int32) (xm0 - (1 : Int32))) + (0 : Int32)).toInt64))) := f344.same W353
    refine OGo.on st353 ?_
    show OGo p e below s _ _ _ (T353.setTop (mkF m 80 #[.val (.ref ra), .val (.int (0 : Int32)), .val (.int (0 : Int32)), .val (.int y0), .val (.int ((own_max (0 : Int32) (xm0 - (1 : Int32))) + (0 : Int32)))] []))
    refine OGo.on (fun t k => XS.aloadN Xh369.here hx rfl (hb hby d8_80) rfl rfl k) ?_
    show OGo p e below s _ _ _ (T353.setTop (mkF m 81 #[.val (.ref ra), .val (.int (0 : Int32)), .val (.int (0 : Int32)), .val (.int y0), .val (.int ((own_max (0 : Int32) (xm0 - (1 : Int32))) + (0 : Int32)))] [(.ref ra)]))
    obtain ⟨T371, X371, e371, st371⟩ := getF Xh369 hx hZ hown (host := "") (Or.inl (hw _ (List.mem_of_getElem? (i := 12) rfl))) Via.refl e353 f355 (g := (mkF m 81 #[.val (.ref ra), .val (.int (0 : Int32)), .val (.int (0 : Int32)), .val (.int y0), .val (.int ((own_max (0 : Int32) (xm0 - (1 : Int32))) + (0 : Int32)))] [(.ref ra)])) rfl rfl (hb hby d8_81)
    refine OGo.on st371 ?_
    show OGo p e below s _ _ _ (T371.setTop (mkF m 84 #[.val (.ref ra), .val (.int (0 : Int32)), .val (.int (0 : Int32)), .val (.int y0), .val (.int ((own_max (0 : Int32) (xm0 - (1 : Int32))) + (0 : Int32)))] [(.ref rk)]))
    refine OGo.on (fun t k => XS.iloadN X371.here hx rfl (hb hby d8_84) rfl k) ?_
    refine OGo.on (fun t k => XS.iinc X371.here hx rfl (hb hby d8_85) rfl (l' := #[.val (.ref ra), .val (.int (1 : Int32)), .val (.int (0 : Int32)), .val (.int y0), .val (.int ((own_max (0 : Int32) (xm0 - (1 : Int32))) + (0 : Int32)))]) rfl k) ?_
    refine OGo.on (fun t k => XS.iloadN X371.here hx rfl (hb hby d8_88) rfl k) ?_
    show OGo p e below s _ _ _ (T371.setTop (mkF m 89 #[.val (.ref ra), .val (.int (1 : Int32)), .val (.int (0 : Int32)), .val (.int y0), .val (.int ((own_max (0 : Int32) (xm0 - (1 : Int32))) + (0 : Int32)))] [(.int y0), (.int (0 : Int32)), (.ref rk)]))
    obtain ⟨T372, h372, X372, e372, W372, A372, st372⟩ := OAL.stI X371 hx hZ e371 f366 (j := (0 : Int32)) (x := y0) (by decide) (by (try simp only [List.length_set]); rw [hca]; decide) (Ls := #[.val (.ref ra), .val (.int (1 : Int32)), .val (.int (0 : Int32)), .val (.int y0), .val (.int ((own_max (0 : Int32) (xm0 - (1 : Int32))) + (0 : Int32)))]) (rest := []) (hb hby d8_89)
    have f373 : Exa Z h372 ra "com/example/slotwright/slotwright/solver/Occupancy" := f354.wr W372
    have f374 : Fld Z h372 ra "com/example/slotwright/slotwright/solver/Occupancy" "clashing" "[I" (.ref rk) := f355.other W372 (Or.inl hD.2.2.2.2.2.2.2.2.2.1)
    have f375 : Fld Z h372 ra "com/example/slotwright/slotwright/solver/Occupancy" "slots" "I" (.int (3 : Int32)) := f356.other W372 (Or.inl hD.2.2.2.2.2.2.2.2.2.1)
    have f376 : Fld Z h372 ra "com/example/slotwright/slotwright/solver/Occupancy" "meetings" "[I" (.ref rm) := f357.other W372 (Or.inl hD.2.2.2.2.2.2.2.2.2.1)
    have f377 : Fld Z h372 ra "com/example/slotwright/slotwright/solver/Occupancy" "closed" "[Z" (.ref rc) := f358.other W372 (Or.inl hD.2.2.2.2.2.2.2.2.2.1)
    have f378 : Fld Z h372 ra "com/example/slotwright/slotwright/solver/Occupancy" "weights" "[I" (.ref rw) := f359.other W372 (Or.inl hD.2.2.2.2.2.2.2.2.2.1)
    have f379 : Fld Z h372 ra "com/example/slotwright/slotwright/solver/Occupancy" "listed" "[Z" (.ref rl) := f360.other W372 (Or.inl hD.2.2.2.2.2.2.2.2.2.1)
    have f380 : Fld Z h372 ra "com/example/slotwright/slotwright/solver/Occupancy" "clashingCount" "I" (.int (2 : Int32)) := f361.other W372 (Or.inl hD.2.2.2.2.2.2.2.2.2.1)
    have f381 : Fld Z h372 ra "com/example/slotwright/slotwright/solver/Occupancy" "weighted" "J" (.long (wd + (((own_max (0 : Int32) (xm0 - (1 : Int32))) + (0 : Int32)).toInt64))) := f370.other W372 (Or.inl hD.2.2.2.2.2.2.2.2.2.1)
    have f382 : OAL Z h372 rm .int M := f362.other W372 hD.2.2.2.2.2.2.2.2.2.2.2.2.2.1
    have f383 : OAL Z h372 rw .int (Wt.set y0.toNatClampNeg (xw0 + (1 : Int32))) := f363.other W372 hD.2.2.2.2.2.2.2.2.2.2.2.2.2.2.2.2.1
    have f384 : OAL Z h372 rc .boolean Cl := f364.other W372 hD.2.2.2.2.2.2.2.2.2.2.2.2.2.2.2.2.2.2.1
    have f385 : OAL Z h372 rl .boolean Li := f365.other W372 hD.2.2.2.2.2.2.2.2.2.2.2.2.2.2.2.2.2.2.2
    have Z386 : n0 ≤ h372.size := Nat.le_trans Z367 (Nat.le_of_eq W372.size.symm)
    have N387 := Fr.snoc X372 Nh369 hD.2.2.2.2.1
    obtain ⟨Lh388, Xh388, Nh388⟩ := own_hide X372 N387
    have V372 : OAL Z h372 rk .int (Ca.set (0 : Int32).toNatClampNeg y0) := A372
    refine OGo.on st372 ?_
    show OGo p e below s _ _ _ (T372.setTop (mkF m 90 #[.val (.ref ra), .val (.int (1 : Int32)), .val (.int (0 : Int32)), .val (.int y0), .val (.int ((own_max (0 : Int32) (xm0 - (1 : Int32))) + (0 : Int32)))] []))
    refine OGo.on (fun t k => XS.goto Xh388.here hx rfl (pc0 := 90) (pc' := 100) rfl (hb hby d8_90) (by decide) (by decide) k) ?_
    refine OGo.on (fun t k => XS.iinc Xh388.here hx rfl (hb hby d8_100) rfl (l' := #[.val (.ref ra), .val (.int (1 : Int32)), .val (.int (1 : Int32)), .val (.int y0), .val (.int ((own_max (0 : Int32) (xm0 - (1 : Int32))) + (0 : Int32)))]) rfl k) ?_
    refine OGo.on (fun t k => XS.goto Xh388.here hx rfl (pc0 := 103) (pc' := 4) rfl (hb hby d8_103) (by decide) (by decide) k) ?_
    refine OGo.on (fun t k => XS.iloadN Xh388.here hx rfl (hb hby d8_4) rfl k) ?_
    show OGo p e below s _ _ _ (T372.setTop (mkF m 5 #[.val (.ref ra), .val (.int (1 : Int32)), .val (.int (1 : Int32)), .val (.int y0), .val (.int ((own_max (0 : Int32) (xm0 - (1 : Int32))) + (0 : Int32)))] [(.int (1 : Int32))]))
    refine OGo.on (fun t k => XS.aloadN Xh388.here hx rfl (hb hby d8_5) rfl rfl k) ?_
    show OGo p e below s _ _ _ (T372.setTop (mkF m 6 #[.val (.ref ra), .val (.int (1 : Int32)), .val (.int (1 : Int32)), .val (.int y0), .val (.int ((own_max (0 : Int32) (xm0 - (1 : Int32))) + (0 : Int32)))] [(.ref ra), (.int (1 : Int32))]))
    obtain ⟨T389, X389, e389, st389⟩ := getF Xh388 hx hZ hown (host := "") (Or.inl (hw _ (List.mem_of_getElem? (i := 48) rfl))) Via.refl e372 f380 (g := (mkF m 6 #[.val (.ref ra), .val (.int (1 : Int32)), .val (.int (1 : Int32)), .val (.int y0), .val (.int ((own_max (0 : Int32) (xm0 - (1 : Int32))) + (0 : Int32)))] [(.ref ra), (.int (1 : Int32))])) rfl rfl (hb hby d8_6)
    refine OGo.on st389 ?_
    show OGo p e below s _ _ _ (T389.setTop (mkF m 9 #[.val (.ref ra), .val (.int (1 : Int32)), .val (.int (1 : Int32)), .val (.int y0), .val (.int ((own_max (0 : Int32) (xm0 - (1 : Int32))) + (0 : Int32)))] [(.int (2 : Int32)), (.int (1 : Int32))]))
    refine OGo.on (fun t k => XS.icmpNo X389.here hx rfl (hb hby d8_9) rfl (tlt (by decide)).2.1 k) ?_
    show OGo p e below s _ _ _ (T389.setTop (mkF m 12 #[.val (.ref ra), .val (.int (1 : Int32)), .val (.int (1 : Int32)), .val (.int y0), .val (.int ((own_max (0 : Int32) (xm0 - (1 : Int32))) + (0 : Int32)))] []))
    refine OGo.on (fun t k => XS.aloadN X389.here hx rfl (hb hby d8_12) rfl rfl k) ?_
    show OGo p e below s _ _ _ (T389.setTop (mkF m 13 #[.val (.ref ra), .val (.int (1 : Int32)), .val (.int (1 : Int32)), .val (.int y0), .val (.int ((own_max (0 : Int32) (xm0 - (1 : Int32))) + (0 : Int32)))] [(.ref ra)]))
    obtain ⟨T390, X390, e390, st390⟩ := getF X389 hx hZ hown (host := "") (Or.inl (hw _ (List.mem_of_getElem? (i := 12) rfl))) Via.refl e389 f374 (g := (mkF m 13 #[.val (.ref ra), .val (.int (1 : Int32)), .val (.int (1 : Int32)), .val (.int y0), .val (.int ((own_max (0 : Int32) (xm0 - (1 : Int32))) + (0 : Int32)))] [(.ref ra)])) rfl rfl (hb hby d8_13)
    refine OGo.on st390 ?_
    show OGo p e below s _ _ _ (T390.setTop (mkF m 16 #[.val (.ref ra), .val (.int (1 : Int32)), .val (.int (1 : Int32)), .val (.int y0), .val (.int ((own_max (0 : Int32) (xm0 - (1 : Int32))) + (0 : Int32)))] [(.ref rk)]))
    refine OGo.on (fun t k => XS.iloadN X390.here hx rfl (hb hby d8_16) rfl k) ?_
    show OGo p e below s _ _ _ (T390.setTop (mkF m 17 #[.val (.ref ra), .val (.int (1 : Int32)), .val (.int (1 : Int32)), .val (.int y0), .val (.int ((own_max (0 : Int32) (xm0 - (1 : Int32))) + (0 : Int32)))] [(.int (1 : Int32)), (.ref rk)]))
    refine OGo.on (fun t k => OAL.ia X390 hx hZ e390 V372 (oat_ne qa1 _ (by decide)) (hb hby d8_17) k) ?_
    show OGo p e below s _ _ _ (T390.setTop (mkF m 18 #[.val (.ref ra), .val (.int (1 : Int32)), .val (.int (1 : Int32)), .val (.int y0), .val (.int ((own_max (0 : Int32) (xm0 - (1 : Int32))) + (0 : Int32)))] [(.int y1)]))
    refine OGo.on (fun t k => XS.istoreN X390.here hx rfl (hb hby d8_18) rfl (l' := #[.val (.ref ra), .val (.int (1 : Int32)), .val (.int (1 : Int32)), .val (.int y1), .val (.int ((own_max (0 : Int32) (xm0 - (1 : Int32))) + (0 : Int32)))]) rfl k) ?_
    refine OGo.on (fun t k => XS.iconst X390.here hx rfl (hb hby d8_19) k) ?_
    refine OGo.on (fun t k => XS.aloadN X390.here hx rfl (hb hby d8_20) rfl rfl k) ?_
    show OGo p e below s _ _ _ (T390.setTop (mkF m 21 #[.val (.ref ra), .val (.int (1 : Int32)), .val (.int (1 : Int32)), .val (.int y1), .val (.int ((own_max (0 : Int32) (xm0 - (1 : Int32))) + (0 : Int32)))] [(.ref ra), (.int (0 : Int32))]))
    obtain ⟨T391, X391, e391, st391⟩ := getF X390 hx hZ hown (host := "") (Or.inl (hw _ (List.mem_of_getElem? (i := 21) rfl))) Via.refl e390 f376 (g := (mkF m 21 #[.val (.ref ra), .val (.int (1 : Int32)), .val (.int (1 : Int32)), .val (.int y1), .val (.int ((own_max (0 : Int32) (xm0 - (1 : Int32))) + (0 : Int32)))] [(.ref ra), (.int (0 : Int32))])) rfl rfl (hb hby d8_21)
    refine OGo.on st391 ?_
    show OGo p e below s _ _ _ (T391.setTop (mkF m 24 #[.val (.ref ra), .val (.int (1 : Int32)), .val (.int (1 : Int32)), .val (.int y1), .val (.int ((own_max (0 : Int32) (xm0 - (1 : Int32))) + (0 : Int32)))] [(.ref rm), (.int (0 : Int32))]))
    refine OGo.on (fun t k => XS.iloadN X391.here hx rfl (hb hby d8_24) rfl k) ?_
    show OGo p e below s _ _ _ (T391.setTop (mkF m 25 #[.val (.ref ra), .val (.int (1 : Int32)), .val (.int (1 : Int32)), .val (.int y1), .val (.int ((own_max (0 : Int32) (xm0 - (1 : Int32))) + (0 : Int32)))] [(.int y1), (.ref rm), (.int (0 : Int32))]))
    refine OGo.on (fun t k => OAL.ia X391 hx hZ e391 f382 qm1 (hb hby d8_25) k) ?_
    show OGo p e below s _ _ _ (T391.setTop (mkF m 26 #[.val (.ref ra), .val (.int (1 : Int32)), .val (.int (1 : Int32)), .val (.int y1), .val (.int ((own_max (0 : Int32) (xm0 - (1 : Int32))) + (0 : Int32)))] [(.int xm1), (.int (0 : Int32))]))
    refine OGo.on (fun t k => XS.iconst X391.here hx rfl (hb hby d8_26) k) ?_
    refine OGo.on (fun t k => XS.isub X391.here hx rfl (hb hby d8_27) rfl k) ?_
    show OGo p e below s _ _ _ (T391.setTop (mkF m 28 #[.val (.ref ra), .val (.int (1 : Int32)), .val (.int (1 : Int32)), .val (.int y1), .val (.int ((own_max (0 : Int32) (xm0 - (1 : Int32))) + (0 : Int32)))] [(.int (xm1 - (1 : Int32))), (.int (0 : Int32))]))
    obtain ⟨_, _, ⟨T392, L392, k392, n392⟩, -, X392, ⟨Lc392, hQ392, l392, y392, z392⟩, st392⟩ := Jvm.LawKit.callS X391 hx (y := (⟨"java/lang/Math", "max", "(II)I"⟩ : MethodName)) hown (mvT hZ (hw _ (List.mem_of_getElem? (i := 55) rfl))) (mvT hZ (hw _ (List.mem_of_getElem? (i := 56) rfl))) (mvT hZ (hw _ (List.mem_of_getElem? (i := 57) rfl))) (mvT hZ (hw _ (List.mem_of_getElem? (i := 58) rfl))) (by decide) (backOf (W := 0) (own_mmax l Z a0 hw [] (0 : Int32) (xm1 - (1 : Int32)) h372 n0 Z386) hZ (hw _ (List.mem_of_getElem? (i := 58) rfl)) (hw _ (List.mem_of_getElem? (i := 57) rfl)) (by decide) (by decide)) (g := (mkF m 28 #[.val (.ref ra), .val (.int (1 : Int32)), .val (.int (1 : Int32)), .val (.int y1), .val (.int ((own_max (0 : Int32) (xm0 - (1 : Int32))) + (0 : Int32)))] [(.int (xm1 - (1 : Int32))), (.int (0 : Int32))])) rfl (by rw [hml]; rfl) (argsL := [(.int (0 : Int32)), (.int (xm1 - (1 : Int32)))]) (rest := []) (lenOf own_pd1 rfl) rfl (by show 2 * 0 + _ ≤ _; exact Nat.le_of_eq rfl) (hb hby d8_28) (fun _ _ => ⟨rfl, e391, (by decide : 0 + 0 ≤ _), (by decide : 0 + 0 ≤ _)⟩)
    dsimp only [Pt.U, Pt.locs, Pt.cells, Pt.slots] at X392 l392 y392 z392 st392 hQ392
    subst l392 y392 z392
    obtain ⟨rfl, N392q, e392⟩ := hQ392
    have N392 := Fr.app Nh388 N392q
    obtain ⟨Lh393, Xh393, Nh393⟩ := own_hide X392 N392
    refine OGo.on st392 ?_
    show OGo p e below s _ _ _ (T392.setTop (mkF m 31 #[.val (.ref ra), .val (.int (1 : Int32)), .val (.int (1 : Int32)), .val (.int y1), .val (.int ((own_max (0 : Int32) (xm0 - (1 : Int32))) + (0 : Int32)))] [(.int (own_max (0 : Int32) (xm1 - (1 : Int32))))]))
    refine OGo.on (fun t k => XS.aloadN Xh393.here hx rfl (hb hby d8_31) rfl rfl k) ?_
    show OGo p e below s _ _ _ (T392.setTop (mkF m 32 #[.val (.ref ra), .val (.int (1 : Int32)), .val (.int (1 : Int32)), .val (.int y1), .val (.int ((own_max (0 : Int32) (xm0 - (1 : Int32))) + (0 : Int32)))] [(.ref ra), (.int (own_max (0 : Int32) (xm1 - (1 : Int32))))]))
    obtain ⟨T394, X394, e394, st394⟩ := getF Xh393 hx hZ hown (host := "") (Or.inl (hw _ (List.mem_of_getElem? (i := 23) rfl))) Via.refl e392 f377 (g := (mkF m 32 #[.val (.ref ra), .val (.int (1 : Int32)), .val (.int (1 : Int32)), .val (.int y1), .val (.int ((own_max (0 : Int32) (xm0 - (1 : Int32))) + (0 : Int32)))] [(.ref ra), (.int (own_max (0 : Int32) (xm1 - (1 : Int32))))])) rfl rfl (hb hby d8_32)
    refine OGo.on st394 ?_
    show OGo p e below s _ _ _ (T394.setTop (mkF m 35 #[.val (.ref ra), .val (.int (1 : Int32)), .val (.int (1 : Int32)), .val (.int y1), .val (.int ((own_max (0 : Int32) (xm0 - (1 : Int32))) + (0 : Int32)))] [(.ref rc), (.int (own_max (0 : Int32) (xm1 - (1 : Int32))))]))
    refine OGo.on (fun t k => XS.iloadN X394.here hx rfl (hb hby d8_35) rfl k) ?_
    show OGo p e below s _ _ _ (T394.setTop (mkF m 36 #[.val (.ref ra), .val (.int (1 : Int32)), .val (.int (1 : Int32)), .val (.int y1), .val (.int ((own_max (0 : Int32) (xm0 - (1 : Int32))) + (0 : Int32)))] [(.int y1), (.ref rc), (.int (own_max (0 : Int32) (xm1 - (1 : Int32))))]))
    refine OGo.on (fun t k => OAL.baZ X394 hx hZ e394 f384 qc1 (hb hby d8_36) k) ?_
    show OGo p e below s _ _ _ (T394.setTop (mkF m 37 #[.val (.ref ra), .val (.int (1 : Int32)), .val (.int (1 : Int32)), .val (.int y1), .val (.int ((own_max (0 : Int32) (xm0 - (1 : Int32))) + (0 : Int32)))] [(.int xc1), (.int (own_max (0 : Int32) (xm1 - (1 : Int32))))]))
    by_cases hc395 : xc1 = (0 : Int32)
    · refine OGo.on (fun t k => XS.ifYes X394.here hx rfl (pc0 := 37) (pc' := 49) rfl (hb hby d8_37) rfl ((if0 _ _).trans (teq hc395).1) (by decide) (by decide) k) ?_
      show OGo p e below s _ _ _ (T394.setTop (mkF m 49 #[.val (.ref ra), .val (.int (1 : Int32)), .val (.int (1 : Int32)), .val (.int y1), .val (.int ((own_max (0 : Int32) (xm0 - (1 : Int32))) + (0 : Int32)))] [(.int (own_max (0 : Int32) (xm1 - (1 : Int32))))]))
      refine OGo.on (fun t k => XS.iconst X394.here hx rfl (hb hby d8_49) k) ?_
      refine OGo.on (fun t k => XS.iadd X394.here hx rfl (hb hby d8_50) rfl k) ?_
      refine OGo.on (fun t k => XS.istore X394.here hx rfl (hb hby d8_51) rfl (l' := #[.val (.ref ra), .val (.int (1 : Int32)), .val (.int (1 : Int32)), .val (.int y1), .val (.int ((own_max (0 : Int32) (xm1 - (1 : Int32))) + (0 : Int32)))]) rfl k) ?_
      refine OGo.on (fun t k => XS.iload X394.here hx rfl (hb hby d8_53) rfl k) ?_
      show OGo p e below s _ _ _ (T394.setTop (mkF m 55 #[.val (.ref ra), .val (.int (1 : Int32)), .val (.int (1 : Int32)), .val (.int y1), .val (.int ((own_max (0 : Int32) (xm1 - (1 : Int32))) + (0 : Int32)))] [(.int ((own_max (0 : Int32) (xm1 - (1 : Int32))) + (0 : Int32)))]))
      refine OGo.on (fun t k => XS.ifNo X394.here hx rfl (hb hby d8_55) rfl ((if0 _ _).trans (tlt (by have z := hz1; unfold own_cnt at z; rw [if_pos hc395] at z; exact z)).2.2.2) k) ?_
      show OGo p e below s _ _ _ (T394.setTop (mkF m 58 #[.val (.ref ra), .val (.int (1 : Int32)), .val (.int (1 : Int32)), .val (.int y1), .val (.int ((own_max (0 : Int32) (xm1 - (1 : Int32))) + (0 : Int32)))] []))
      refine OGo.on (fun t k => XS.aloadN X394.here hx rfl (hb hby d8_58) rfl rfl k) ?_
      show OGo p e below s _ _ _ (T394.setTop (mkF m 59 #[.val (.ref ra), .val (.int (1 : Int32)), .val (.int (1 : Int32)), .val (.int y1), .val (.int ((own_max (0 : Int32) (xm1 - (1 : Int32))) + (0 : Int32)))] [(.ref ra)]))
      obtain ⟨T396, X396, e396, st396⟩ := getF X394 hx hZ hown (host := "") (Or.inl (hw _ (List.mem_of_getElem? (i := 32) rfl))) Via.refl e394 f378 (g := (mkF m 59 #[.val (.ref ra), .val (.int (1 : Int32)), .val (.int (1 : Int32)), .val (.int y1), .val (.int ((own_max (0 : Int32) (xm1 - (1 : Int32))) + (0 : Int32)))] [(.ref ra)])) rfl rfl (hb hby d8_59)
      refine OGo.on st396 ?_
      show OGo p e below s _ _ _ (T396.setTop (mkF m 62 #[.val (.ref ra), .val (.int (1 : Int32)), .val (.int (1 : Int32)), .val (.int y1), .val (.int ((own_max (0 : Int32) (xm1 - (1 : Int32))) + (0 : Int32)))] [(.ref rw)]))
      refine OGo.on (fun t k => XS.iloadN X396.here hx rfl (hb hby d8_62) rfl k) ?_
      show OGo p e below s _ _ _ (T396.setTop (mkF m 63 #[.val (.ref ra), .val (.int (1 : Int32)), .val (.int (1 : Int32)), .val (.int y1), .val (.int ((own_max (0 : Int32) (xm1 - (1 : Int32))) + (0 : Int32)))] [(.int y1), (.ref rw)]))
      refine OGo.on (fun t k => XT.dup2 X396.here hx rfl (hb hby d8_63) rfl rfl rfl k) ?_
      show OGo p e below s _ _ _ (T396.setTop (mkF m 64 #[.val (.ref ra), .val (.int (1 : Int32)), .val (.int (1 : Int32)), .val (.int y1), .val (.int ((own_max (0 : Int32) (xm1 - (1 : Int32))) + (0 : Int32)))] [(.int y1), (.ref rw), (.int y1), (.ref rw)]))
      refine OGo.on (fun t k => OAL.ia X396 hx hZ e396 f383 qw1 (hb hby d8_64) k) ?_
      show OGo p e below s _ _ _ (T396.setTop (mkF m 65 #[.val (.ref ra), .val (.int (1 : Int32)), .val (.int (1 : Int32)), .val (.int y1), .val (.int ((own_max (0 : Int32) (xm1 - (1 : Int32))) + (0 : Int32)))] [(.int xw1), (.int y1), (.ref rw)]))
      refine OGo.on (fun t k => XS.iconst X396.here hx rfl (hb hby d8_65) k) ?_
      refine OGo.on (fun t k => XS.iadd X396.here hx rfl (hb hby d8_66) rfl k) ?_
      show OGo p e below s _ _ _ (T396.setTop (mkF m 67 #[.val (.ref ra), .val (.int (1 : Int32)), .val (.int (1 : Int32)), .val (.int y1), .val (.int ((own_max (0 : Int32) (xm1 - (1 : Int32))) + (0 : Int32)))] [(.int (xw1 + (1 : Int32))), (.int y1), (.ref rw)]))
      obtain ⟨T397, h397, X397, e397, W397, A397, st397⟩ := OAL.stI X396 hx hZ e396 f383 (j := y1) (x := (xw1 + (1 : Int32))) qw1.1 (oat_lt qw1) (Ls := #[.val (.ref ra), .val (.int (1 : Int32)), .val (.int (1 : Int32)), .val (.int y1), .val (.int ((own_max (0 : Int32) (xm1 - (1 : Int32))) + (0 : Int32)))]) (rest := []) (hb hby d8_67)
      have f398 : Exa Z h397 ra "com/example/slotwright/slotwright/solver/Occupancy" := f373.wr W397
      have f399 : Fld Z h397 ra "com/example/slotwright/slotwright/solver/Occupancy" "clashing" "[I" (.ref rk) := f374.other W397 (Or.inl hD.2.2.2.2.2.2.1)
      have f400 : Fld Z h397 ra "com/example/slotwright/slotwright/solver/Occupancy" "slots" "I" (.int (3 : Int32)) := f375.other W397 (Or.inl hD.2.2.2.2.2.2.1)
      have f401 : Fld Z h397 ra "com/example/slotwright/slotwright/solver/Occupancy" "meetings" "[I" (.ref rm) := f376.other W397 (Or.inl hD.2.2.2.2.2.2.1)
      have f402 : Fld Z h397 ra "com/example/slotwright/slotwright/solver/Occupancy" "closed" "[Z" (.ref rc) := f377.other W397 (Or.inl hD.2.2.2.2.2.2.1)
      have f403 : Fld Z h397 ra "com/example/slotwright/slotwright/solver/Occupancy" "weights" "[I" (.ref rw) := f378.other W397 (Or.inl hD.2.2.2.2.2.2.1)
      have f404 : Fld Z h397 ra "com/example/slotwright/slotwright/solver/Occupancy" "listed" "[Z" (.ref rl) := f379.other W397 (Or.inl hD.2.2.2.2.2.2.1)
      have f405 : Fld Z h397 ra "com/example/slotwright/slotwright/solver/Occupancy" "clashingCount" "I" (.int (2 : Int32)) := f380.other W397 (Or.inl hD.2.2.2.2.2.2.1)
      have f406 : Fld Z h397 ra "com/example/slotwright/slotwright/solver/Occupancy" "weighted" "J" (.long (wd + (((own_max (0 : Int32) (xm0 - (1 : Int32))) + (0 : Int32)).toInt64))) := f381.other W397 (Or.inl hD.2.2.2.2.2.2.1)
      have f407 : OAL Z h397 rm .int M := f382.other W397 hD.2.2.2.2.2.2.2.2.2.2.1
      have f408 : OAL Z h397 rc .boolean Cl := f384.other W397 (Ne.symm hD.2.2.2.2.2.2.2.2.2.2.2.2.2.2.1)
      have f409 : OAL Z h397 rl .boolean Li := f385.other W397 (Ne.symm hD.2.2.2.2.2.2.2.2.2.2.2.2.2.2.2.1)
      have f410 : OAL Z h397 rk .int (Ca.set (0 : Int32).toNatClampNeg y0) := V372.other W397 (Ne.symm hD.2.2.2.2.2.2.2.2.2.2.2.2.2.2.2.2.1)
      have Z411 : n0 ≤ h397.size := Nat.le_trans Z386 (Nat.le_of_eq W397.size.symm)
      have N412 := Fr.snoc X397 Nh393 hD.2.2.1
      obtain ⟨Lh413, Xh413, Nh413⟩ := own_hide X397 N412
      have V397 : OAL Z h397 rw .int ((Wt.set y0.toNatClampNeg (xw0 + (1 : Int32))).set y1.toNatClampNeg (xw1 + (1 : Int32))) := A397
      refine OGo.on st397 ?_
      show OGo p e below s _ _ _ (T397.setTop (mkF m 68 #[.val (.ref ra), .val (.int (1 : Int32)), .val (.int (1 : Int32)), .val (.int y1), .val (.int ((own_max (0 : Int32) (xm1 - (1 : Int32))) + (0 : Int32)))] []))
      refine OGo.on (fun t k => XS.aloadN Xh413.here hx rfl (hb hby d8_68) rfl rfl k) ?_
      refine OGo.on (fun t k => XS.dup Xh413.here hx rfl (hb hby d8_69) rfl rfl k) ?_
      show OGo p e below s _ _ _ (T397.setTop (mkF m 70 #[.val (.ref ra), .val (.int (1 : Int32)), .val (.int (1 : Int32)), .val (.int y1), .val (.int ((own_max (0 : Int32) (xm1 - (1 : Int32))) + (0 : Int32)))] [(.ref ra), (.ref ra)]))
      obtain ⟨T414, X414, e414, st414⟩ := getF Xh413 hx hZ hown (host := "") (Or.inl (hw _ (List.mem_of_getElem? (i := 46) rfl))) Via.refl e397 f406 (g := (mkF m 70 #[.val (.ref ra), .val (.int (1 : Int32)), .val (.int (1 : Int32)), .val (.int y1), .val (.int ((own_max (0 : Int32) (xm1 - (1 : Int32))) + (0 : Int32)))] [(.ref ra), (.ref ra)])) rfl rfl (hb hby d8_70)
      refine OGo.on st414 ?_
      show OGo p e below s _ _ _ (T414.setTop (mkF m 73 #[.val (.ref ra), .val (.int (1 : Int32)), .val (.int (1 : Int32)), .val (.int y1), .val (.int ((own_max (0 : Int32) (xm1 - (1 : Int32))) + (0 : Int32)))] [(.long (wd + (((own_max (0 : Int32) (xm0 - (1 : Int32))) + (0 : Int32)).toInt64))), (.ref ra)]))
      refine OGo.on (fun t k => XS.iload X414.here hx rfl (hb hby d8_73) rfl k) ?_
      refine OGo.on (fun t k => XS.i2l X414.here hx rfl (hb hby d8_75) rfl k) ?_
      refine OGo.on (fun t k => XS.ladd X414.here hx rfl (hb hby d8_76) rfl k) ?_
      show OGo p e below s _ _ _ (T414.setTop (mkF m 77 #[.val (.ref ra), .val (.int (1 : Int32)), .val (.int (1 : Int32)), .val (.int y1), .val (.int ((own_max (0 : Int32) (xm1 - (1 : Int32))) + (0 : Int32)))] [(.long ((wd + (((own_max (0 : Int32) (xm0 - (1 : Int32))) + (0 : Int32)).toInt64)) + (((own_max (0 : Int32) (xm1 - (1 : Int32))) + (0 : Int32)).toInt64))), (.ref ra)]))
      obtain ⟨T415, h415, X415, e415, W415, st415⟩ := putF X414 hx hZ hown (host := "") (Or.inl (hw _ (List.mem_of_getElem? (i := 46) rfl))) Via.refl e414 f406 f398 (Or.inl (hw _ (List.mem_of_getElem? (i := 47) rfl))) (hw _ (List.mem_of_getElem? (i := 3) rfl)) (ty := .long) (by decide) rfl rfl (g := (mkF m 77 #[.val (.ref ra), .val (.int (1 : Int32)), .val (.int (1 : Int32)), .val (.int y1), .val (.int ((own_max (0 : Int32) (xm1 - (1 : Int32))) + (0 : Int32)))] [(.long ((wd + (((own_max (0 : Int32) (xm0 - (1 : Int32))) + (0 : Int32)).toInt64)) + (((own_max (0 : Int32) (xm1 - (1 : Int32))) + (0 : Int32)).toInt64))), (.ref ra)])) rfl rfl (hb hby d8_77)
      have f416 : Exa Z h415 ra "com/example/slotwright/slotwright/solver/Occupancy" := f398.wr W415
      have f417 : Fld Z h415 ra "com/example/slotwright/slotwright/solver/Occupancy" "clashing" "[I" (.ref rk) := f399.other W415 (Or.inr (slot_ne (Or.inl (hw _ (List.mem_of_getElem? (i := 13) rfl))) (Or.inl (hw _ (List.mem_of_getElem? (i := 47) rfl))) (by decide) (t := (.array .int)) (t' := .long) (by decide) (by decide)))
      have f418 : Fld Z h415 ra "com/example/slotwright/slotwright/solver/Occupancy" "slots" "I" (.int (3 : Int32)) := f400.other W415 (Or.inr (slot_ne (Or.inr (hw _ (List.mem_of_getElem? (i := 15) rfl))) (Or.inl (hw _ (List.mem_of_getElem? (i := 47) rfl))) (by decide) (t := .int) (t' := .long) (by decide) (by decide)))
      have f419 : Fld Z h415 ra "com/example/slotwright/slotwright/solver/Occupancy" "meetings" "[I" (.ref rm) := f401.other W415 (Or.inr (slot_ne (Or.inr (hw _ (List.mem_of_getElem? (i := 22) rfl))) (Or.inl (hw _ (List.mem_of_getElem? (i := 47) rfl))) (by decide) (t := (.array .int)) (t' := .long) (by decide) (by decide)))
      have f420 : Fld Z h415 ra "com/example/slotwright/slotwright/solver/Occupancy" "closed" "[Z" (.ref rc) := f402.other W415 (Or.inr (slot_ne (Or.inr (hw _ (List.mem_of_getElem? (i := 24) rfl))) (Or.inl (hw _ (List.mem_of_getElem? (i := 47) rfl))) (by decide) (t := (.array .boolean)) (t' := .long) (by decide) (by decide)))
      have f421 : Fld Z h415 ra "com/example/slotwright/slotwright/solver/Occupancy" "weights" "[I" (.ref rw) := f403.other W415 (Or.inr (slot_ne (Or.inr (hw _ (List.mem_of_getElem? (i := 33) rfl))) (Or.inl (hw _ (List.mem_of_getElem? (i := 47) rfl))) (by decide) (t := (.array .int)) (t' := .long) (by decide) (by decide)))
      have f422 : Fld Z h415 ra "com/example/slotwright/slotwright/solver/Occupancy" "listed" "[Z" (.ref rl) := f404.other W415 (Or.inr (slot_ne (Or.inr (hw _ (List.mem_of_getElem? (i := 35) rfl))) (Or.inl (hw _ (List.mem_of_getElem? (i := 47) rfl))) (by decide) (t := (.array .boolean)) (t' := .long) (by decide) (by decide)))
      have f423 : Fld Z h415 ra "com/example/slotwright/slotwright/solver/Occupancy" "clashingCount" "I" (.int (2 : Int32)) := f405.other W415 (Or.inr (slot_ne (Or.inl (hw _ (List.mem_of_getElem? (i := 49) rfl))) (Or.inl (hw _ (List.mem_of_getElem? (i := 47) rfl))) (by decide) (t := .int) (t' := .long) (by decide) (by decide)))
      have f424 : OAL Z h415 rm .int M := f407.other W415 (Ne.symm hD.2.2.2.2.2.1)
      have f425 : OAL Z h415 rw .int ((Wt.set y0.toNatClampNeg (xw0 + (1 : Int32))).set y1.toNatClampNeg (xw1 + (1 : Int32))) := V397.other W415 (Ne.symm hD.2.2.2.2.2.2.1)
      have f426 : OAL Z h415 rc .boolean Cl := f408.other W415 (Ne.symm hD.2.2.2.2.2.2.2.1)
      have f427 : OAL Z h415 rl .boolean Li := f409.other W415 (Ne.symm hD.2.2.2.2.2.2.2.2.1)
      have f428 : OAL Z h415 rk .int (Ca.set (0 : Int32).toNatClampNeg y0) := f410.other W415 (Ne.symm hD.2.2.2.2.2.2.2.2.2.1)
      have Z429 : n0 ≤ h415.size := Nat.le_trans Z411 (Nat.le_of_eq W415.size.symm)
      have N430 := Fr.snoc X415 Nh413 hD.1
      obtain ⟨Lh431, Xh431, Nh431⟩ := own_hide X415 N430
      have f432 : Fld Z h415 ra "com/example/slotwright/slotwright/solver/Occupancy" "weighted" "J" (.long ((wd + (((own_max (0 : Int32) (xm0 - (1 : Int32))) + (0 : Int32)).toInt64)) + (((own_max (0 : Int32) (xm1 - (1 : Int32))) + (0 : Int32)).toInt64))) := f406.same W415
      refine OGo.on st415 ?_
      show OGo p e below s _ _ _ (T415.setTop (mkF m 80 #[.val (.ref ra), .val (.int (1 : Int32)), .val (.int (1 : Int32)), .val (.int y1), .val (.int ((own_max (0 : Int32) (xm1 - (1 : Int32))) + (0 : Int32)))] []))
      refine OGo.on (fun t k => XS.aloadN Xh431.here hx rfl (hb hby d8_80) rfl rfl k) ?_
      show OGo p e below s _ _ _ (T415.setTop (mkF m 81 #[.val (.ref ra), .val (.int (1 : Int32)), .val (.int (1 : Int32)), .val (.int y1), .val (.int ((own_max (0 : Int32) (xm1 - (1 : Int32))) + (0 : Int32)))] [(.ref ra)]))
      obtain ⟨T433, X433, e433, st433⟩ := getF Xh431 hx hZ hown (host := "") (Or.inl (hw _ (List.mem_of_getElem? (i := 12) rfl))) Via.refl e415 f417 (g := (mkF m 81 #[.val (.ref ra), .val (.int (1 : Int32)), .val (.int (1 : Int32)), .val (.int y1), .val (.int ((own_max (0 : Int32) (xm1 - (1 : Int32))) + (0 : Int32)))] [(.ref ra)])) rfl rfl (hb hby d8_81)
      refine OGo.on st433 ?_
      show OGo p e below s _ _ _ (T433.setTop (mkF m 84 #[.val (.ref ra), .val (.int (1 : Int32)), .val (.int (1 : Int32)), .val (.int y1), .val (.int ((own_max (0 : Int32) (xm1 - (1 : Int32))) + (0 : Int32)))] [(.ref rk)]))
      refine OGo.on (fun t k => XS.iloadN X433.here hx rfl (hb hby d8_84) rfl k) ?_
      refine OGo.on (fun t k => XS.iinc X433.here hx rfl (hb hby d8_85) rfl (l' := #[.val (.ref ra), .val (.int (2 : Int32)), .val (.int (1 : Int32)), .val (.int y1), .val (.int ((own_max (0 : Int32) (xm1 - (1 : Int32))) + (0 : Int32)))]) rfl k) ?_
      refine OGo.on (fun t k => XS.iloadN X433.here hx rfl (hb hby d8_88) rfl k) ?_
      show OGo p e below s _ _ _ (T433.setTop (mkF m 89 #[.val (.ref ra), .val (.int (2 : Int32)), .val (.int (1 : Int32)), .val (.int y1), .val (.int ((own_max (0 : Int32) (xm1 - (1 : Int32))) + (0 : Int32)))] [(.int y1), (.int (1 : Int32)), (.ref rk)]))
      obtain ⟨T434, h434, X434, e434, W434, A434, st434⟩ := OAL.stI X433 hx hZ e433 f428 (j := (1 : Int32)) (x := y1) (by decide) (by (try simp only [List.length_set]); rw [hca]; decide) (Ls := #[.val (.ref ra), .val (.int (2 : Int32)), .val (.int (1 : Int32)), .val (.int y1), .val (.int ((own_max (0 : Int32) (xm1 - (1 : Int32))) + (0 : Int32)))]) (rest := []) (hb hby d8_89)
      have f435 : Exa Z h434 ra "com/example/slotwright/slotwright/solver/Occupancy" := f416.wr W434
      have f436 : Fld Z h434 ra "com/example/slotwright/slotwright/solver/Occupancy" "clashing" "[I" (.ref rk) := f417.other W434 (Or.inl hD.2.2.2.2.2.2.2.2.2.1)
      have f437 : Fld Z h434 ra "com/example/slotwright/slotwright/solver/Occupancy" "slots" "I" (.int (3 : Int32)) := f418.other W434 (Or.inl hD.2.2.2.2.2.2.2.2.2.1)
      have f438 : Fld Z h434 ra "com/example/slotwright/slotwright/solver/Occupancy" "meetings" "[I" (.ref rm) := f419.other W434 (Or.inl hD.2.2.2.2.2.2.2.2.2.1)
      have f439 : Fld Z h434 ra "com/example/slotwright/slotwright/solver/Occupancy" "closed" "[Z" (.ref rc) := f420.other W434 (Or.inl hD.2.2.2.2.2.2.2.2.2.1)
      have f440 : Fld Z h434 ra "com/example/slotwright/slotwright/solver/Occupancy" "weights" "[I" (.ref rw) := f421.other W434 (Or.inl hD.2.2.2.2.2.2.2.2.2.1)
      have f441 : Fld Z h434 ra "com/example/slotwright/slotwright/solver/Occupancy" "listed" "[Z" (.ref rl) := f422.other W434 (Or.inl hD.2.2.2.2.2.2.2.2.2.1)
      have f442 : Fld Z h434 ra "com/example/slotwright/slotwright/solver/Occupancy" "clashingCount" "I" (.int (2 : Int32)) := f423.other W434 (Or.inl hD.2.2.2.2.2.2.2.2.2.1)
      have f443 : Fld Z h434 ra "com/example/slotwright/slotwright/solver/Occupancy" "weighted" "J" (.long ((wd + (((own_max (0 : Int32) (xm0 - (1 : Int32))) + (0 : Int32)).toInt64)) + (((own_max (0 : Int32) (xm1 - (1 : Int32))) + (0 : Int32)).toInt64))) := f432.other W434 (Or.inl hD.2.2.2.2.2.2.2.2.2.1)
      have f444 : OAL Z h434 rm .int M := f424.other W434 hD.2.2.2.2.2.2.2.2.2.2.2.2.2.1
      have f445 : OAL Z h434 rw .int ((Wt.set y0.toNatClampNeg (xw0 + (1 : Int32))).set y1.toNatClampNeg (xw1 + (1 : Int32))) := f425.other W434 hD.2.2.2.2.2.2.2.2.2.2.2.2.2.2.2.2.1
      have f446 : OAL Z h434 rc .boolean Cl := f426.other W434 hD.2.2.2.2.2.2.2.2.2.2.2.2.2.2.2.2.2.2.1
      have f447 : OAL Z h434 rl .boolean Li := f427.other W434 hD.2.2.2.2.2.2.2.2.2.2.2.2.2.2.2.2.2.2.2
      have Z448 : n0 ≤ h434.size := Nat.le_trans Z429 (Nat.le_of_eq W434.size.symm)
      have N449 := Fr.snoc X434 Nh431 hD.2.2.2.2.1
      obtain ⟨Lh450, Xh450, Nh450⟩ := own_hide X434 N449
      have V434 : OAL Z h434 rk .int ((Ca.set (0 : Int32).toNatClampNeg y0).set (1 : Int32).toNatClampNeg y1) := A434
      refine OGo.on st434 ?_
      show OGo p e below s _ _ _ (T434.setTop (mkF m 90 #[.val (.ref ra), .val (.int (2 : Int32)), .val (.int (1 : Int32)), .val (.int y1), .val (.int ((own_max (0 : Int32) (xm1 - (1 : Int32))) + (0 : Int32)))] []))
      refine OGo.on (fun t k => XS.goto Xh450.here hx rfl (pc0 := 90) (pc' := 100) rfl (hb hby d8_90) (by decide) (by decide) k) ?_
      refine OGo.on (fun t k => XS.iinc Xh450.here hx rfl (hb hby d8_100) rfl (l' := #[.val (.ref ra), .val (.int (2 : Int32)), .val (.int (2 : Int32)), .val (.int y1), .val (.int ((own_max (0 : Int32) (xm1 - (1 : Int32))) + (0 : Int32)))]) rfl k) ?_
      refine OGo.on (fun t k => XS.goto Xh450.here hx rfl (pc0 := 103) (pc' := 4) rfl (hb hby d8_103) (by decide) (by decide) k) ?_
      refine OGo.on (fun t k => XS.iloadN Xh450.here hx rfl (hb hby d8_4) rfl k) ?_
      show OGo p e below s _ _ _ (T434.setTop (mkF m 5 #[.val (.ref ra), .val (.int (2 : Int32)), .val (.int (2 : Int32)), .val (.int y1), .val (.int ((own_max (0 : Int32) (xm1 - (1 : Int32))) + (0 : Int32)))] [(.int (2 : Int32))]))
      refine OGo.on (fun t k => XS.aloadN Xh450.here hx rfl (hb hby d8_5) rfl rfl k) ?_
      show OGo p e below s _ _ _ (T434.setTop (mkF m 6 #[.val (.ref ra), .val (.int (2 : Int32)), .val (.int (2 : Int32)), .val (.int y1), .val (.int ((own_max (0 : Int32) (xm1 - (1 : Int32))) + (0 : Int32)))] [(.ref ra), (.int (2 : Int32))]))
      obtain ⟨T451, X451, e451, st451⟩ := getF Xh450 hx hZ hown (host := "") (Or.inl (hw _ (List.mem_of_getElem? (i := 48) rfl))) Via.refl e434 f442 (g := (mkF m 6 #[.val (.ref ra), .val (.int (2 : Int32)), .val (.int (2 : Int32)), .val (.int y1), .val (.int ((own_max (0 : Int32) (xm1 - (1 : Int32))) + (0 : Int32)))] [(.ref ra), (.int (2 : Int32))])) rfl rfl (hb hby d8_6)
      refine OGo.on st451 ?_
      show OGo p e below s _ _ _ (T451.setTop (mkF m 9 #[.val (.ref ra), .val (.int (2 : Int32)), .val (.int (2 : Int32)), .val (.int y1), .val (.int ((own_max (0 : Int32) (xm1 - (1 : Int32))) + (0 : Int32)))] [(.int (2 : Int32)), (.int (2 : Int32))]))
      refine OGo.on (fun t k => XS.icmpYes X451.here hx rfl (pc0 := 9) (pc' := 106) rfl (hb hby d8_9) rfl (flt (by decide)).2.1 (by decide) (by decide) k) ?_
      show OGo p e below s _ _ _ (T451.setTop (mkF m 106 #[.val (.ref ra), .val (.int (2 : Int32)), .val (.int (2 : Int32)), .val (.int y1), .val (.int ((own_max (0 : Int32) (xm1 - (1 : Int32))) + (0 : Int32)))] []))
      refine OGo.on (fun t k => XS.aloadN X451.here hx rfl (hb hby d8_106) rfl rfl k) ?_
      refine OGo.on (fun t k => XS.iloadN X451.here hx rfl (hb hby d8_107) rfl k) ?_
      show OGo p e below s _ _ _ (T451.setTop (mkF m 108 #[.val (.ref ra), .val (.int (2 : Int32)), .val (.int (2 : Int32)), .val (.int y1), .val (.int ((own_max (0 : Int32) (xm1 - (1 : Int32))) + (0 : Int32)))] [(.int (2 : Int32)), (.ref ra)]))
      obtain ⟨T452, h452, X452, e452, W452, st452⟩ := putF X451 hx hZ hown (host := "") (Or.inl (hw _ (List.mem_of_getElem? (i := 48) rfl))) Via.refl e451 f442 f435 (Or.inl (hw _ (List.mem_of_getElem? (i := 49) rfl))) (hw _ (List.mem_of_getElem? (i := 3) rfl)) (ty := .int) (by decide) rfl rfl (g := (mkF m 108 #[.val (.ref ra), .val (.int (2 : Int32)), .val (.int (2 : Int32)), .val (.int y1), .val (.int ((own_max (0 : Int32) (xm1 - (1 : Int32))) + (0 : Int32)))] [(.int (2 : Int32)), (.ref ra)])) rfl rfl (hb hby d8_108)
      have f453 : Exa Z h452 ra "com/example/slotwright/slotwright/solver/Occupancy" := f435.wr W452
      have f454 : Fld Z h452 ra "com/example/slotwright/slotwright/solver/Occupancy" "clashing" "[I" (.ref rk) := f436.other W452 (Or.inr (slot_ne (Or.inl (hw _ (List.mem_of_getElem? (i := 13) rfl))) (Or.inl (hw _ (List.mem_of_getElem? (i := 49) rfl))) (by decide) (t := (.array .int)) (t' := .int) (by decide) (by decide)))
      have f455 : Fld Z h452 ra "com/example/slotwright/slotwright/solver/Occupancy" "slots" "I" (.int (3 : Int32)) := f437.other W452 (Or.inr (slot_ne (Or.inr (hw _ (List.mem_of_getElem? (i := 15) rfl))) (Or.inl (hw _ (List.mem_of_getElem? (i := 49) rfl))) (by decide) (t := .int) (t' := .int) (by decide) (by decide)))
      have f456 : Fld Z h452 ra "com/example/slotwright/slotwright/solver/Occupancy" "meetings" "[I" (.ref rm) := f438.other W452 (Or.inr (slot_ne (Or.inr (hw _ (List.mem_of_getElem? (i := 22) rfl))) (Or.inl (hw _ (List.mem_of_getElem? (i := 49) rfl))) (by decide) (t := (.array .int)) (t' := .int) (by decide) (by decide)))
      have f457 : Fld Z h452 ra "com/example/slotwright/slotwright/solver/Occupancy" "closed" "[Z" (.ref rc) := f439.other W452 (Or.inr (slot_ne (Or.inr (hw _ (List.mem_of_getElem? (i := 24) rfl))) (Or.inl (hw _ (List.mem_of_getElem? (i := 49) rfl))) (by decide) (t := (.array .boolean)) (t' := .int) (by decide) (by decide)))
      have f458 : Fld Z h452 ra "com/example/slotwright/slotwright/solver/Occupancy" "weights" "[I" (.ref rw) := f440.other W452 (Or.inr (slot_ne (Or.inr (hw _ (List.mem_of_getElem? (i := 33) rfl))) (Or.inl (hw _ (List.mem_of_getElem? (i := 49) rfl))) (by decide) (t := (.array .int)) (t' := .int) (by decide) (by decide)))
      have f459 : Fld Z h452 ra "com/example/slotwright/slotwright/solver/Occupancy" "listed" "[Z" (.ref rl) := f441.other W452 (Or.inr (slot_ne (Or.inr (hw _ (List.mem_of_getElem? (i := 35) rfl))) (Or.inl (hw _ (List.mem_of_getElem? (i := 49) rfl))) (by decide) (t := (.array .boolean)) (t' := .int) (by decide) (by decide)))
      have f460 : Fld Z h452 ra "com/example/slotwright/slotwright/solver/Occupancy" "weighted" "J" (.long ((wd + (((own_max (0 : Int32) (xm0 - (1 : Int32))) + (0 : Int32)).toInt64)) + (((own_max (0 : Int32) (xm1 - (1 : Int32))) + (0 : Int32)).toInt64))) := f443.other W452 (Or.inr (slot_ne (Or.inl (hw _ (List.mem_of_getElem? (i := 47) rfl))) (Or.inl (hw _ (List.mem_of_getElem? (i := 49) rfl))) (by decide) (t := .long) (t' := .int) (by decide) (by decide)))
      have f461 : OAL Z h452 rm .int M := f444.other W452 (Ne.symm hD.2.2.2.2.2.1)
      have f462 : OAL Z h452 rw .int ((Wt.set y0.toNatClampNeg (xw0 + (1 : Int32))).set y1.toNatClampNeg (xw1 + (1 : Int32))) := f445.other W452 (Ne.symm hD.2.2.2.2.2.2.1)
      have f463 : OAL Z h452 rc .boolean Cl := f446.other W452 (Ne.symm hD.2.2.2.2.2.2.2.1)
      have f464 : OAL Z h452 rl .boolean Li := f447.other W452 (Ne.symm hD.2.2.2.2.2.2.2.2.1)
      have f465 : OAL Z h452 rk .int ((Ca.set (0 : Int32).toNatClampNeg y0).set (1 : Int32).toNatClampNeg y1) := V434.other W452 (Ne.symm hD.2.2.2.2.2.2.2.2.2.1)
      have Z466 : n0 ≤ h452.size := Nat.le_trans Z448 (Nat.le_of_eq W452.size.symm)
      have N467 := Fr.snoc X452 Nh450 hD.1
      obtain ⟨Lh468, Xh468, Nh468⟩ := own_hide X452 N467
      have f469 : Fld Z h452 ra "com/example/slotwright/slotwright/solver/Occupancy" "clashingCount" "I" (.int (2 : Int32)) := f442.same W452
      refine OGo.on st452 ?_
      show OGo p e below s _ _ _ (T452.setTop (mkF m 111 #[.val (.ref ra), .val (.int (2 : Int32)), .val (.int (2 : Int32)), .val (.int y1), .val (.int ((own_max (0 : Int32) (xm1 - (1 : Int32))) + (0 : Int32)))] []))
      exact OGo.ret0 Xh468 hx hret hlk (hb hby d8_111) ⟨rfl, Nh468, by rw [e452]; exact Z466, by rw [e452]; exact ⟨f453, f454, f455, f456, f457, f458, f459, f469, ⟨_, f460⟩, f461, f462, f463, f464, f465⟩⟩ (by decide) (by decide)
    · refine OGo.on (fun t k => XS.ifNo X394.here hx rfl (hb hby d8_37) rfl ((if0 _ _).trans (feq hc395).1) k) ?_
      show OGo p e below s _ _ _ (T394.setTop (mkF m 40 #[.val (.ref ra), .val (.int (1 : Int32)), .val (.int (1 : Int32)), .val (.int y1), .val (.int ((own_max (0 : Int32) (xm0 - (1 : Int32))) + (0 : Int32)))] [(.int (own_max (0 : Int32) (xm1 - (1 : Int32))))]))
      refine OGo.on (fun t k => XS.aloadN X394.here hx rfl (hb hby d8_40) rfl rfl k) ?_
      show OGo p e below s _ _ _ (T394.setTop (mkF m 41 #[.val (.ref ra), .val (.int (1 : Int32)), .val (.int (1 : Int32)), .val (.int y1), .val (.int ((own_max (0 : Int32) (xm0 - (1 : Int32))) + (0 : Int32)))] [(.ref ra), (.int (own_max (0 : Int32) (xm1 - (1 : Int32))))]))
      obtain ⟨T470, X470, e470, st470⟩ := getF X394 hx hZ hown (host := "") (Or.inl (hw _ (List.mem_of_getElem? (i := 21) rfl))) Via.refl e394 f376 (g := (mkF m 41 #[.val (.ref ra), .val (.int (1 : Int32)), .val (.int (1 : Int32)), .val (.int y1), .val (.int ((own_max (0 : Int32) (xm0 - (1 : Int32))) + (0 : Int32)))] [(.ref ra), (.int (own_max (0 : Int32) (xm1 - (1 : Int32))))])) rfl rfl (hb hby d8_41)
      refine OGo.on st470 ?_
      show OGo p e below s _ _ _ (T470.setTop (mkF m 44 #[.val (.ref ra), .val (.int (1 : Int32)), .val (.int (1 : Int32)), .val (.int y1), .val (.int ((own_max (0 : Int32) (xm0 - (1 : Int32))) + (0 : Int32)))] [(.ref rm), (.int (own_max (0 : Int32) (xm1 - (1 : Int32))))]))
      refine OGo.on (fun t k => XS.iloadN X470.here hx rfl (hb hby d8_44) rfl k) ?_
      show OGo p e below s _ _ _ (T470.setTop (mkF m 45 #[.val (.ref ra), .val (.int (1 : Int32)), .val (.int (1 : Int32)), .val (.int y1), .val (.int ((own_max (0 : Int32) (xm0 - (1 : Int32))) + (0 : Int32)))] [(.int y1), (.ref rm), (.int (own_max (0 : Int32) (xm1 - (1 : Int32))))]))
      refine OGo.on (fun t k => OAL.ia X470 hx hZ e470 f382 qm1 (hb hby d8_45) k) ?_
      show OGo p e below s _ _ _ (T470.setTop (mkF m 46 #[.val (.ref ra), .val (.int (1 : Int32)), .val (.int (1 : Int32)), .val (.int y1), .val (.int ((own_max (0 : Int32) (xm0 - (1 : Int32))) + (0 : Int32)))] [(.int xm1), (.int (own_max (0 : Int32) (xm1 - (1 : Int32))))]))
      refine OGo.on (fun t k => XS.goto X470.here hx rfl (pc0 := 46) (pc' := 50) rfl (hb hby d8_46) (by decide) (by decide) k) ?_
      refine OGo.on (fun t k => XS.iadd X470.here hx rfl (hb hby d8_50) rfl k) ?_
      refine OGo.on (fun t k => XS.istore X470.here hx rfl (hb hby d8_51) rfl (l' := #[.val (.ref ra), .val (.int (1 : Int32)), .val (.int (1 : Int32)), .val (.int y1), .val (.int ((own_max (0 : Int32) (xm1 - (1 : Int32))) + xm1))]) rfl k) ?_
      refine OGo.on (fun t k => XS.iload X470.here hx rfl (hb hby d8_53) rfl k) ?_
      show OGo p e below s _ _ _ (T470.setTop (mkF m 55 #[.val (.ref ra), .val (.int (1 : Int32)), .val (.int (1 : Int32)), .val (.int y1), .val (.int ((own_max (0 : Int32) (xm1 - (1 : Int32))) + xm1))] [(.int ((own_max (0 : Int32) (xm1 - (1 : Int32))) + xm1))]))
      refine OGo.on (fun t k => XS.ifNo X470.here hx rfl (hb hby d8_55) rfl ((if0 _ _).trans (tlt (by have z := hz1; unfold own_cnt at z; rw [if_neg hc395] at z; exact z)).2.2.2) k) ?_
      show OGo p e below s _ _ _ (T470.setTop (mkF m 58 #[.val (.ref ra), .val (.int (1 : Int32)), .val (.int (1 : Int32)), .val (.int y1), .val (.int ((own_max (0 : Int32) (xm1 - (1 : Int32))) + xm1))] []))
      refine OGo.on (fun t k => XS.aloadN X470.here hx rfl (hb hby d8_58) rfl rfl k) ?_
      show OGo p e below s _ _ _ (T470.setTop (mkF m 59 #[.val (.ref ra), .val (.int (1 : Int32)), .val (.int (1 : Int32)), .val (.int y1), .val (.int ((own_max (0 : Int32) (xm1 - (1 : Int32))) + xm1))] [(.ref ra)]))
      obtain ⟨T471, X471, e471, st471⟩ := getF X470 hx hZ hown (host := "") (Or.inl (hw _ (List.mem_of_getElem? (i := 32) rfl))) Via.refl e470 f378 (g := (mkF m 59 #[.val (.ref ra), .val (.int (1 : Int32)), .val (.int (1 : Int32)), .val (.int y1), .val (.int ((own_max (0 : Int32) (xm1 - (1 : Int32))) + xm1))] [(.ref ra)])) rfl rfl (hb hby d8_59)
      refine OGo.on st471 ?_
      show OGo p e below s _ _ _ (T471.setTop (mkF m 62 #[.val (.ref ra), .val (.int (1 : Int32)), .val (.int (1 : Int32)), .val (.int y1), .val (.int ((own_max (0 : Int32) (xm1 - (1 : Int32))) + xm1))] [(.ref rw)]))
      refine OGo.on (fun t k => XS.iloadN X471.here hx rfl (hb hby d8_62) rfl k) ?_
      show OGo p e below s _ _ _ (T471.setTop (mkF m 63 #[.val (.ref ra), .val (.int (1 : Int32)), .val (.int (1 : Int32)), .val (.int y1), .val (.int ((own_max (0 : Int32) (xm1 - (1 : Int32))) + xm1))] [(.int y1), (.ref rw)]))
      refine OGo.on (fun t k => XT.dup2 X471.here hx rfl (hb hby d8_63) rfl rfl rfl k) ?_
      show OGo p e below s _ _ _ (T471.setTop (mkF m 64 #[.val (.ref ra), .val (.int (1 : Int32)), .val (.int (1 : Int32)), .val (.int y1), .val (.int ((own_max (0 : Int32) (xm1 - (1 : Int32))) + xm1))] [(.int y1), (.ref rw), (.int y1), (.ref rw)]))
      refine OGo.on (fun t k => OAL.ia X471 hx hZ e471 f383 qw1 (hb hby d8_64) k) ?_
      show OGo p e below s _ _ _ (T471.setTop (mkF m 65 #[.val (.ref ra), .val (.int (1 : Int32)), .val (.int (1 : Int32)), .val (.int y1), .val (.int ((own_max (0 : Int32) (xm1 - (1 : Int32))) + xm1))] [(.int xw1), (.int y1), (.ref rw)]))
      refine OGo.on (fun t k => XS.iconst X471.here hx rfl (hb hby d8_65) k) ?_
      refine OGo.on (fun t k => XS.iadd X471.here hx rfl (hb hby d8_66) rfl k) ?_
      show OGo p e below s _ _ _ (T471.setTop (mkF m 67 #[.val (.ref ra), .val (.int (1 : Int32)), .val (.int (1 : Int32)), .val (.int y1), .val (.int ((own_max (0 : Int32) (xm1 - (1 : Int32))) + xm1))] [(.int (xw1 + (1 : Int32))), (.int y1), (.ref rw)]))
      obtain ⟨T472, h472, X472, e472, W472, A472, st472⟩ := OAL.stI X471 hx hZ e471 f383 (j := y1) (x := (xw1 + (1 : Int32))) qw1.1 (oat_lt qw1) (Ls := #[.val (.ref ra), .val (.int (1 : Int32)), .val (.int (1 : Int32)), .val (.int y1), .val (.int ((own_max (0 : Int32) (xm1 - (1 : Int32))) + xm1))]) (rest := []) (hb hby d8_67)
      have f473 : Exa Z h472 ra "com/example/slotwright/slotwright/solver/Occupancy" := f373.wr W472
      have f474 : Fld Z h472 ra "com/example/slotwright/slotwright/solver/Occupancy" "clashing" "[I" (.ref rk) := f374.other W472 (Or.inl hD.2.2.2.2.2.2.1)
      have f475 : Fld Z h472 ra "com/example/slotwright/slotwright/solver/Occupancy" "slots" "I" (.int (3 : Int32)) := f375.other W472 (Or.inl hD.2.2.2.2.2.2.1)
      have f476 : Fld Z h472 ra "com/example/slotwright/slotwright/solver/Occupancy" "meetings" "[I" (.ref rm) := f376.other W472 (Or.inl hD.2.2.2.2.2.2.1)
      have f477 : Fld Z h472 ra "com/example/slotwright/slotwright/solver/Occupancy" "closed" "[Z" (.ref rc) := f377.other W472 (Or.inl hD.2.2.2.2.2.2.1)
      have f478 : Fld Z h472 ra "com/example/slotwright/slotwright/solver/Occupancy" "weights" "[I" (.ref rw) := f378.other W472 (Or.inl hD.2.2.2.2.2.2.1)
      have f479 : Fld Z h472 ra "com/example/slotwright/slotwright/solver/Occupancy" "listed" "[Z" (.ref rl) := f379.other W472 (Or.inl hD.2.2.2.2.2.2.1)
      have f480 : Fld Z h472 ra "com/example/slotwright/slotwright/solver/Occupancy" "clashingCount" "I" (.int (2 : Int32)) := f380.other W472 (Or.inl hD.2.2.2.2.2.2.1)
      have f481 : Fld Z h472 ra "com/example/slotwright/slotwright/solver/Occupancy" "weighted" "J" (.long (wd + (((own_max (0 : Int32) (xm0 - (1 : Int32))) + (0 : Int32)).toInt64))) := f381.other W472 (Or.inl hD.2.2.2.2.2.2.1)
      have f482 : OAL Z h472 rm .int M := f382.other W472 hD.2.2.2.2.2.2.2.2.2.2.1
      have f483 : OAL Z h472 rc .boolean Cl := f384.other W472 (Ne.symm hD.2.2.2.2.2.2.2.2.2.2.2.2.2.2.1)
      have f484 : OAL Z h472 rl .boolean Li := f385.other W472 (Ne.symm hD.2.2.2.2.2.2.2.2.2.2.2.2.2.2.2.1)
      have f485 : OAL Z h472 rk .int (Ca.set (0 : Int32).toNatClampNeg y0) := V372.other W472 (Ne.symm hD.2.2.2.2.2.2.2.2.2.2.2.2.2.2.2.2.1)
      have Z486 : n0 ≤ h472.size := Nat.le_trans Z386 (Nat.le_of_eq W472.size.symm)
      have N487 := Fr.snoc X472 Nh393 hD.2.2.1
      obtain ⟨Lh488, Xh488, Nh488⟩ := own_hide X472 N487
      have V472 : OAL Z h472 rw .int ((Wt.set y0.toNatClampNeg (xw0 + (1 : Int32))).set y1.toNatClampNeg (xw1 + (1 : Int32))) := A472
      refine OGo.on st472 ?_
      show OGo p e below s _ _ _ (T472.setTop (mkF m 68 #[.val (.ref ra), .val (.int (1 : Int32)), .val (.int (1 : Int32)), .val (.int y1), .val (.int ((own_max (0 : Int32) (xm1 - (1 : Int32))) + xm1))] []))
      refine OGo.on (fun t k => XS.aloadN Xh488.here hx rfl (hb hby d8_68) rfl rfl k) ?_
      refine OGo.on (fun t k => XS.dup Xh488.here hx rfl (hb hby d8_69) rfl rfl k) ?_
      show OGo p e below s _ _ _ (T472.setTop (mkF m 70 #[.val (.ref ra), .val (.int (1 : Int32)), .val (.int (1 : Int32)), .val (.int y1), .val (.int ((own_max (0 : Int32) (xm1 - (1 : Int32))) + xm1))] [(.ref ra), (.ref ra)]))
      obtain ⟨T489, X489, e489, st489⟩ := getF Xh488 hx hZ hown (host := "") (Or.inl (hw _ (List.mem_of_getElem? (i := 46) rfl))) Via.refl e472 f481 (g := (mkF m 70 #[.val (.ref ra), .val (.int (1 : Int32)), .val (.int (1 : Int32)), .val (.int y1), .val (.int ((own_max (0 : Int32) (xm1 - (1 : Int32))) + xm1))] [(.ref ra), (.ref ra)])) rfl rfl (hb hby d8_70)
      refine OGo.on st489 ?_
      show OGo p e below s _ _ _ (T489.setTop (mkF m 73 #[.val (.ref ra), .val (.int (1 : Int32)), .val (.int (1 : Int32)), .val (.int y1), .val (.int ((own_max (0 : Int32) (xm1 - (1 : Int32))) + xm1))] [(.long (wd + (((own_max (0 : Int32) (xm0 - (1 : Int32))) + (0 : Int32)).toInt64))), (.ref ra)]))
      refine OGo.on (fun t k => XS.iload X489.here hx rfl (hb hby d8_73) rfl k) ?_
      refine OGo.on (fun t k => XS.i2l X489.here hx rfl (hb hby d8_75) rfl k) ?_
      refine OGo.on (fun t k => XS.ladd X489.here hx rfl (hb hby d8_76) rfl k) ?_
      show OGo p e below s _ _ _ (T489.setTop (mkF m 77 #[.val (.ref ra), .val (.int (1 : Int32)), .val (.int (1 : Int32)), .val (.int y1), .val (.int ((own_max (0 : Int32) (xm1 - (1 : Int32))) + xm1))] [(.long ((wd + (((own_max (0 : Int32) (xm0 - (1 : Int32))) + (0 : Int32)).toInt64)) + (((own_max (0 : Int32) (xm1 - (1 : Int32))) + xm1).toInt64))), (.ref ra)]))
      obtain ⟨T490, h490, X490, e490, W490, st490⟩ := putF X489 hx hZ hown (host := "") (Or.inl (hw _ (List.mem_of_getElem? (i := 46) rfl))) Via.refl e489 f481 f473 (Or.inl (hw _ (List.mem_of_getElem? (i := 47) rfl))) (hw _ (List.mem_of_getElem? (i := 3) rfl)) (ty := .long) (by decide) rfl rfl (g := (mkF m 77 #[.val (.ref ra), .val (.int (1 : Int32)), .val (.int (1 : Int32)), .val (.int y1), .val (.int ((own_max (0 : Int32) (xm1 - (1 : Int32))) + xm1))] [(.long ((wd + (((own_max (0 : Int32) (xm0 - (1 : Int32))) + (0 : Int32)).toInt64)) + (((own_max (0 : Int32) (xm1 - (1 : Int32))) + xm1).toInt64))), (.ref ra)])) rfl rfl (hb hby d8_77)
      have f491 : Exa Z h490 ra "com/example/slotwright/slotwright/solver/Occupancy" := f473.wr W490
      have f492 : Fld Z h490 ra "com/example/slotwright/slotwright/solver/Occupancy" "clashing" "[I" (.ref rk) := f474.other W490 (Or.inr (slot_ne (Or.inl (hw _ (List.mem_of_getElem? (i := 13) rfl))) (Or.inl (hw _ (List.mem_of_getElem? (i := 47) rfl))) (by decide) (t := (.array .int)) (t' := .long) (by decide) (by decide)))
      have f493 : Fld Z h490 ra "com/example/slotwright/slotwright/solver/Occupancy" "slots" "I" (.int (3 : Int32)) := f475.other W490 (Or.inr (slot_ne (Or.inr (hw _ (List.mem_of_getElem? (i := 15) rfl))) (Or.inl (hw _ (List.mem_of_getElem? (i := 47) rfl))) (by decide) (t := .int) (t' := .long) (by decide) (by decide)))
      have f494 : Fld Z h490 ra "com/example/slotwright/slotwright/solver/Occupancy" "meetings" "[I" (.ref rm) := f476.other W490 (Or.inr (slot_ne (Or.inr (hw _ (List.mem_of_getElem? (i := 22) rfl))) (Or.inl (hw _ (List.mem_of_getElem? (i := 47) rfl))) (by decide) (t := (.array .int)) (t' := .long) (by decide) (by decide)))
      have f495 : Fld Z h490 ra "com/example/slotwright/slotwright/solver/Occupancy" "closed" "[Z" (.ref rc) := f477.other W490 (Or.inr (slot_ne (Or.inr (hw _ (List.mem_of_getElem? (i := 24) rfl))) (Or.inl (hw _ (List.mem_of_getElem? (i := 47) rfl))) (by decide) (t := (.array .boolean)) (t' := .long) (by decide) (by decide)))
      have f496 : Fld Z h490 ra "com/example/slotwright/slotwright/solver/Occupancy" "weights" "[I" (.ref rw) := f478.other W490 (Or.inr (slot_ne (Or.inr (hw _ (List.mem_of_getElem? (i := 33) rfl))) (Or.inl (hw _ (List.mem_of_getElem? (i := 47) rfl))) (by decide) (t := (.array .int)) (t' := .long) (by decide) (by decide)))
      have f497 : Fld Z h490 ra "com/example/slotwright/slotwright/solver/Occupancy" "listed" "[Z" (.ref rl) := f479.other W490 (Or.inr (slot_ne (Or.inr (hw _ (List.mem_of_getElem? (i := 35) rfl))) (Or.inl (hw _ (List.mem_of_getElem? (i := 47) rfl))) (by decide) (t := (.array .boolean)) (t' := .long) (by decide) (by decide)))
      have f498 : Fld Z h490 ra "com/example/slotwright/slotwright/solver/Occupancy" "clashingCount" "I" (.int (2 : Int32)) := f480.other W490 (Or.inr (slot_ne (Or.inl (hw _ (List.mem_of_getElem? (i := 49) rfl))) (Or.inl (hw _ (List.mem_of_getElem? (i := 47) rfl))) (by decide) (t := .int) (t' := .long) (by decide) (by decide)))
      have f499 : OAL Z h490 rm .int M := f482.other W490 (Ne.symm hD.2.2.2.2.2.1)
      have f500 : OAL Z h490 rw .int ((Wt.set y0.toNatClampNeg (xw0 + (1 : Int32))).set y1.toNatClampNeg (xw1 + (1 : Int32))) := V472.other W490 (Ne.symm hD.2.2.2.2.2.2.1)
      have f501 : OAL Z h490 rc .boolean Cl := f483.other W490 (Ne.symm hD.2.2.2.2.2.2.2.1)
      have f502 : OAL Z h490 rl .boolean Li := f484.other W490 (Ne.symm hD.2.2.2.2.2.2.2.2.1)
      have f503 : OAL Z h490 rk .int (Ca.set (0 : Int32).toNatClampNeg y0) := f485.other W490 (Ne.symm hD.2.2.2.2.2.2.2.2.2.1)
      have Z504 : n0 ≤ h490.size := Nat.le_trans Z486 (Nat.le_of_eq W490.size.symm)
      have N505 := Fr.snoc X490 Nh488 hD.1
      obtain ⟨Lh506, Xh506, Nh506⟩ := own_hide X490 N505
      have f507 : Fld Z h490 ra "com/example/slotwright/slotwright/solver/Occupancy" "weighted" "J" (.long ((wd + (((own_max (0 : Int32) (xm0 - (1 : Int32))) + (0 : Int32)).toInt64)) + (((own_max (0 : Int32) (xm1 - (1 : Int32))) + xm1).toInt64))) := f481.same W490
      refine OGo.on st490 ?_
      show OGo p e below s _ _ _ (T490.setTop (mkF m 80 #[.val (.ref ra), .val (.int (1 : Int32)), .val (.int (1 : Int32)), .val (.int y1), .val (.int ((own_max (0 : Int32) (xm1 - (1 : Int32))) + xm1))] []))
      refine OGo.on (fun t k => XS.aloadN Xh506.here hx rfl (hb hby d8_80) rfl rfl k) ?_
      show OGo p e below s _ _ _ (T490.setTop (mkF m 81 #[.val (.ref ra), .val (.int (1 : Int32)), .val (.int (1 : Int32)), .val (.int y1), .val (.int ((own_max (0 : Int32) (xm1 - (1 : Int32))) + xm1))] [(.ref ra)]))
      obtain ⟨T508, X508, e508, st508⟩ := getF Xh506 hx hZ hown (host := "") (Or.inl (hw _ (List.mem_of_getElem? (i := 12) rfl))) Via.refl e490 f492 (g := (mkF m 81 #[.val (.ref ra), .val (.int (1 : Int32)), .val (.int (1 : Int32)), .val (.int y1), .val (.int ((own_max (0 : Int32) (xm1 - (1 : Int32))) + xm1))] [(.ref ra)])) rfl rfl (hb hby d8_81)
      refine OGo.on st508 ?_
      show OGo p e below s _ _ _ (T508.setTop (mkF m 84 #[.val (.ref ra), .val (.int (1 : Int32)), .val (.int (1 : Int32)), .val (.int y1), .val (.int ((own_max (0 : Int32) (xm1 - (1 : Int32))) + xm1))] [(.ref rk)]))
      refine OGo.on (fun t k => XS.iloadN X508.here hx rfl (hb hby d8_84) rfl k) ?_
      refine OGo.on (fun t k => XS.iinc X508.here hx rfl (hb hby d8_85) rfl (l' := #[.val (.ref ra), .val (.int (2 : Int32)), .val (.int (1 : Int32)), .val (.int y1), .val (.int ((own_max (0 : Int32) (xm1 - (1 : Int32))) + xm1))]) rfl k) ?_
      refine OGo.on (fun t k => XS.iloadN X508.here hx rfl (hb hby d8_88) rfl k) ?_
      show OGo p e below s _ _ _ (T508.setTop (mkF m 89 #[.val (.ref ra), .val (.int (2 : Int32)), .val (.int (1 : Int32)), .val (.int y1), .val (.int ((own_max (0 : Int32) (xm1 - (1 : Int32))) + xm1))] [(.int y1), (.int (1 : Int32)), (.ref rk)]))
      obtain ⟨T509, h509, X509, e509, W509, A509, st509⟩ := OAL.stI X508 hx hZ e508 f503 (j := (1 : Int32)) (x := y1) (by decide) (by (try simp only [List.length_set]); rw [hca]; decide) (Ls := #[.val (.ref ra), .val (.int (2 : Int32)), .val (.int (1 : Int32)), .val (.int y1), .val (.int ((own_max (0 : Int32) (xm1 - (1 : Int32))) + xm1))]) (rest := []) (hb hby d8_89)
      have f510 : Exa Z h509 ra "com/example/slotwright/slotwright/solver/Occupancy" := f491.wr W509
      have f511 : Fld Z h509 ra "com/example/slotwright/slotwright/solver/Occupancy" "clashing" "[I" (.ref rk) := f492.other W509 (Or.inl hD.2.2.2.2.2.2.2.2.2.1)
      have f512 : Fld Z h509 ra "com/example/slotwright/slotwright/solver/Occupancy" "slots" "I" (.int (3 : Int32)) := f493.other W509 (Or.inl hD.2.2.2.2.2.2.2.2.2.1)
      have f513 : Fld Z h509 ra "com/example/slotwright/slotwright/solver/Occupancy" "meetings" "[I" (.ref rm) := f494.other W509 (Or.inl hD.2.2.2.2.2.2.2.2.2.1)
      have f514 : Fld Z h509 ra "com/example/slotwright/slotwright/solver/Occupancy" "closed" "[Z" (.ref rc) := f495.other W509 (Or.inl hD.2.2.2.2.2.2.2.2.2.1)
      have f515 : Fld Z h509 ra "com/example/slotwright/slotwright/solver/Occupancy" "weights" "[I" (.ref rw) := f496.other W509 (Or.inl hD.2.2.2.2.2.2.2.2.2.1)
      have f516 : Fld Z h509 ra "com/example/slotwright/slotwright/solver/Occupancy" "listed" "[Z" (.ref rl) := f497.other W509 (Or.inl hD.2.2.2.2.2.2.2.2.2.1)
      have f517 : Fld Z h509 ra "com/example/slotwright/slotwright/solver/Occupancy" "clashingCount" "I" (.int (2 : Int32)) := f498.other W509 (Or.inl hD.2.2.2.2.2.2.2.2.2.1)
      have f518 : Fld Z h509 ra "com/example/slotwright/slotwright/solver/Occupancy" "weighted" "J" (.long ((wd + (((own_max (0 : Int32) (xm0 - (1 : Int32))) + (0 : Int32)).toInt64)) + (((own_max (0 : Int32) (xm1 - (1 : Int32))) + xm1).toInt64))) := f507.other W509 (Or.inl hD.2.2.2.2.2.2.2.2.2.1)
      have f519 : OAL Z h509 rm .int M := f499.other W509 hD.2.2.2.2.2.2.2.2.2.2.2.2.2.1
      have f520 : OAL Z h509 rw .int ((Wt.set y0.toNatClampNeg (xw0 + (1 : Int32))).set y1.toNatClampNeg (xw1 + (1 : Int32))) := f500.other W509 hD.2.2.2.2.2.2.2.2.2.2.2.2.2.2.2.2.1
      have f521 : OAL Z h509 rc .boolean Cl := f501.other W509 hD.2.2.2.2.2.2.2.2.2.2.2.2.2.2.2.2.2.2.1
      have f522 : OAL Z h509 rl .boolean Li := f502.other W509 hD.2.2.2.2.2.2.2.2.2.2.2.2.2.2.2.2.2.2.2
      have Z523 : n0 ≤ h509.size := Nat.le_trans Z504 (Nat.le_of_eq W509.size.symm)
      have N524 := Fr.snoc X509 Nh506 hD.2.2.2.2.1
      obtain ⟨Lh525, Xh525, Nh525⟩ := own_hide X509 N524
      have V509 : OAL Z h509 rk .int ((Ca.set (0 : Int32).toNatClampNeg y0).set (1 : Int32).toNatClampNeg y1) := A509
      refine OGo.on st509 ?_
      show OGo p e below s _ _ _ (T509.setTop (mkF m 90 #[.val (.ref ra), .val (.int (2 : Int32)), .val (.int (1 : Int32)), .val (.int y1), .val (.int ((own_max (0 : Int32) (xm1 - (1 : Int32))) + xm1))] []))
      refine OGo.on (fun t k => XS.goto Xh525.here hx rfl (pc0 := 90) (pc' := 100) rfl (hb hby d8_90) (by decide) (by decide) k) ?_
      refine OGo.on (fun t k => XS.iinc Xh525.here hx rfl (hb hby d8_100) rfl (l' := #[.val (.ref ra), .val (.int (2 : Int32)), .val (.int (2 : Int32)), .val (.int y1), .val (.int ((own_max (0 : Int32) (xm1 - (1 : Int32))) + xm1))]) rfl k) ?_
      refine OGo.on (fun t k => XS.goto Xh525.here hx rfl (pc0 := 103) (pc' := 4) rfl (hb hby d8_103) (by decide) (by decide) k) ?_
      refine OGo.on (fun t k => XS.iloadN Xh525.here hx rfl (hb hby d8_4) rfl k) ?_
      show OGo p e below s _ _ _ (T509.setTop (mkF m 5 #[.val (.ref ra), .val (.int (2 : Int32)), .val (.int (2 : Int32)), .val (.int y1), .val (.int ((own_max (0 : Int32) (xm1 - (1 : Int32))) + xm1))] [(.int (2 : Int32))]))
      refine OGo.on (fun t k => XS.aloadN Xh525.here hx rfl (hb hby d8_5) rfl rfl k) ?_
      show OGo p e below s _ _ _ (T509.setTop (mkF m 6 #[.val (.ref ra), .val (.int (2 : Int32)), .val (.int (2 : Int32)), .val (.int y1), .val (.int ((own_max (0 : Int32) (xm1 - (1 : Int32))) + xm1))] [(.ref ra), (.int (2 : Int32))]))
      obtain ⟨T526, X526, e526, st526⟩ := getF Xh525 hx hZ hown (host := "") (Or.inl (hw _ (List.mem_of_getElem? (i := 48) rfl))) Via.refl e509 f517 (g := (mkF m 6 #[.val (.ref ra), .val (.int (2 : Int32)), .val (.int (2 : Int32)), .val (.int y1), .val (.int ((own_max (0 : Int32) (xm1 - (1 : Int32))) + xm1))] [(.ref ra), (.int (2 : Int32))])) rfl rfl (hb hby d8_6)
      refine OGo.on st526 ?_
      show OGo p e below s _ _ _ (T526.setTop (mkF m 9 #[.val (.ref ra), .val (.int (2 : Int32)), .val (.int (2 : Int32)), .val (.int y1), .val (.int ((own_max (0 : Int32) (xm1 - (1 : Int32))) + xm1))] [(.int (2 : Int32)), (.int (2 : Int32))]))
      refine OGo.on (fun t k => XS.icmpYes X526.here hx rfl (pc0 := 9) (pc' := 106) rfl (hb hby d8_9) rfl (flt (by decide)).2.1 (by decide) (by decide) k) ?_
      show OGo p e below s _ _ _ (T526.setTop (mkF m 106 #[.val (.ref ra), .val (.int (2 : Int32)), .val (.int (2 : Int32)), .val (.int y1), .val (.int ((own_max (0 : Int32) (xm1 - (1 : Int32))) + xm1))] []))
      refine OGo.on (fun t k => XS.aloadN X526.here hx rfl (hb hby d8_106) rfl rfl k) ?_
      refine OGo.on (fun t k => XS.iloadN X526.here hx rfl (hb hby d8_107) rfl k) ?_
      show OGo p e below s _ _ _ (T526.setTop (mkF m 108 #[.val (.ref ra), .val (.int (2 : Int32)), .val (.int (2 : Int32)), .val (.int y1), .val (.int ((own_max (0 : Int32) (xm1 - (1 : Int32))) + xm1))] [(.int (2 : Int32)), (.ref ra)]))
      obtain ⟨T527, h527, X527, e527, W527, st527⟩ := putF X526 hx hZ hown (host := "") (Or.inl (hw _ (List.mem_of_getElem? (i := 48) rfl))) Via.refl e526 f517 f510 (Or.inl (hw _ (List.mem_of_getElem? (i := 49) rfl))) (hw _ (List.mem_of_getElem? (i := 3) rfl)) (ty := .int) (by decide) rfl rfl (g := (mkF m 108 #[.val (.ref ra), .val (.int (2 : Int32)), .val (.int (2 : Int32)), .val (.int y1), .val (.int ((own_max (0 : Int32) (xm1 - (1 : Int32))) + xm1))] [(.int (2 : Int32)), (.ref ra)])) rfl rfl (hb hby d8_108)
      have f528 : Exa Z h527 ra "com/example/slotwright/slotwright/solver/Occupancy" := f510.wr W527
      have f529 : Fld Z h527 ra "com/example/slotwright/slotwright/solver/Occupancy" "clashing" "[I" (.ref rk) := f511.other W527 (Or.inr (slot_ne (Or.inl (hw _ (List.mem_of_getElem? (i := 13) rfl))) (Or.inl (hw _ (List.mem_of_getElem? (i := 49) rfl))) (by decide) (t := (.array .int)) (t' := .int) (by decide) (by decide)))
      have f530 : Fld Z h527 ra "com/example/slotwright/slotwright/solver/Occupancy" "slots" "I" (.int (3 : Int32)) := f512.other W527 (Or.inr (slot_ne (Or.inr (hw _ (List.mem_of_getElem? (i := 15) rfl))) (Or.inl (hw _ (List.mem_of_getElem? (i := 49) rfl))) (by decide) (t := .int) (t' := .int) (by decide) (by decide)))
      have f531 : Fld Z h527 ra "com/example/slotwright/slotwright/solver/Occupancy" "meetings" "[I" (.ref rm) := f513.other W527 (Or.inr (slot_ne (Or.inr (hw _ (List.mem_of_getElem? (i := 22) rfl))) (Or.inl (hw _ (List.mem_of_getElem? (i := 49) rfl))) (by decide) (t := (.array .int)) (t' := .int) (by decide) (by decide)))
      have f532 : Fld Z h527 ra "com/example/slotwright/slotwright/solver/Occupancy" "closed" "[Z" (.ref rc) := f514.other W527 (Or.inr (slot_ne (Or.inr (hw _ (List.mem_of_getElem? (i := 24) rfl))) (Or.inl (hw _ (List.mem_of_getElem? (i := 49) rfl))) (by decide) (t := (.array .boolean)) (t' := .int) (by decide) (by decide)))
      have f533 : Fld Z h527 ra "com/example/slotwright/slotwright/solver/Occupancy" "weights" "[I" (.ref rw) := f515.other W527 (Or.inr (slot_ne (Or.inr (hw _ (List.mem_of_getElem? (i := 33) rfl))) (Or.inl (hw _ (List.mem_of_getElem? (i := 49) rfl))) (by decide) (t := (.array .int)) (t' := .int) (by decide) (by decide)))
      have f534 : Fld Z h527 ra "com/example/slotwright/slotwright/solver/Occupancy" "listed" "[Z" (.ref rl) := f516.other W527 (Or.inr (slot_ne (Or.inr (hw _ (List.mem_of_getElem? (i := 35) rfl))) (Or.inl (hw _ (List.mem_of_getElem? (i := 49) rfl))) (by decide) (t := (.array .boolean)) (t' := .int) (by decide) (by decide)))
      have f535 : Fld Z h527 ra "com/example/slotwright/slotwright/solver/Occupancy" "weighted" "J" (.long ((wd + (((own_max (0 : Int32) (xm0 - (1 : Int32))) + (0 : Int32)).toInt64)) + (((own_max (0 : Int32) (xm1 - (1 : Int32))) + xm1).toInt64))) := f518.other W527 (Or.inr (slot_ne (Or.inl (hw _ (List.mem_of_getElem? (i := 47) rfl))) (Or.inl (hw _ (List.mem_of_getElem? (i := 49) rfl))) (by decide) (t := .long) (t' := .int) (by decide) (by decide)))
      have f536 : OAL Z h527 rm .int M := f519.other W527 (Ne.symm hD.2.2.2.2.2.1)
      have f537 : OAL Z h527 rw .int ((Wt.set y0.toNatClampNeg (xw0 + (1 : Int32))).set y1.toNatClampNeg (xw1 + (1 : Int32))) := f520.other W527 (Ne.symm hD.2.2.2.2.2.2.1)
      have f538 : OAL Z h527 rc .boolean Cl := f521.other W527 (Ne.symm hD.2.2.2.2.2.2.2.1)
      have f539 : OAL Z h527 rl .boolean Li := f522.other W527 (Ne.symm hD.2.2.2.2.2.2.2.2.1)
      have f540 : OAL Z h527 rk .int ((Ca.set (0 : Int32).toNatClampNeg y0).set (1 : Int32).toNatClampNeg y1) := V509.other W527 (Ne.symm hD.2.2.2.2.2.2.2.2.2.1)
      have Z541 : n0 ≤ h527.size := Nat.le_trans Z523 (Nat.le_of_eq W527.size.symm)
      have N542 := Fr.snoc X527 Nh525 hD.1
      obtain ⟨Lh543, Xh543, Nh543⟩ := own_hide X527 N542
      have f544 : Fld Z h527 ra "com/example/slotwright/slotwright/solver/Occupancy" "clashingCount" "I" (.int (2 : Int32)) := f517.same W527
      refine OGo.on st527 ?_
      show OGo p e below s _ _ _ (T527.setTop (mkF m 111 #[.val (.ref ra), .val (.int (2 : Int32)), .val (.int (2 : Int32)), .val (.int y1), .val (.int ((own_max (0 : Int32) (xm1 - (1 : Int32))) + xm1))] []))
      exact OGo.ret0 Xh543 hx hret hlk (hb hby d8_111) ⟨rfl, Nh543, by rw [e527]; exact Z541, by rw [e527]; exact ⟨f528, f529, f530, f531, f532, f533, f534, f544, ⟨_, f535⟩, f536, f537, f538, f539, f540⟩⟩ (by decide) (by decide)
  · refine OGo.on (fun t k => XS.ifNo X332.here hx rfl (hb hby d8_37) rfl ((if0 _ _).trans (feq hc333).1) k) ?_
    show OGo p e below s _ _ _ (T332.setTop (mkF m 40 #[.val (.ref ra), .val (.int (0 : Int32)), .val (.int (0 : Int32)), .val (.int y0), .unset] [(.int (own_max (0 : Int32) (xm0 - (1 : Int32))))]))
    refine OGo.on (fun t k => XS.aloadN X332.here hx rfl (hb hby d8_40) rfl rfl k) ?_
    show OGo p e below s _ _ _ (T332.setTop (mkF m 41 #[.val (.ref ra), .val (.int (0 : Int32)), .val (.int (0 : Int32)), .val (.int y0), .unset] [(.ref ra), (.int (own_max (0 : Int32) (xm0 - (1 : Int32))))]))
    obtain ⟨T545, X545, e545, st545⟩ := getF X332 hx hZ hown (host := "") (Or.inl (hw _ (List.mem_of_getElem? (i := 21) rfl))) Via.refl e332 F_meetings (g := (mkF m 41 #[.val (.ref ra), .val (.int (0 : Int32)), .val (.int (0 : Int32)), .val (.int y0), .unset] [(.ref ra), (.int (own_max (0 : Int32) (xm0 - (1 : Int32))))])) rfl rfl (hb hby d8_41)
    refine OGo.on st545 ?_
    show OGo p e below s _ _ _ (T545.setTop (mkF m 44 #[.val (.ref ra), .val (.int (0 : Int32)), .val (.int (0 : Int32)), .val (.int y0), .unset] [(.ref rm), (.int (own_max (0 : Int32) (xm0 - (1 : Int32))))]))
    refine OGo.on (fun t k => XS.iloadN X545.here hx rfl (hb hby d8_44) rfl k) ?_
    show OGo p e below s _ _ _ (T545.setTop (mkF m 45 #[.val (.ref ra), .val (.int (0 : Int32)), .val (.int (0 : Int32)), .val (.int y0), .unset] [(.int y0), (.ref rm), (.int (own_max (0 : Int32) (xm0 - (1 : Int32))))]))
    refine OGo.on (fun t k => OAL.ia X545 hx hZ e545 A_m qm0 (hb hby d8_45) k) ?_
    show OGo p e below s _ _ _ (T545.setTop (mkF m 46 #[.val (.ref ra), .val (.int (0 : Int32)), .val (.int (0 : Int32)), .val (.int y0), .unset] [(.int xm0), (.int (own_max (0 : Int32) (xm0 - (1 : Int32))))]))
    refine OGo.on (fun t k => XS.goto X545.here hx rfl (pc0 := 46) (pc' := 50) rfl (hb hby d8_46) (by decide) (by decide) k) ?_
    refine OGo.on (fun t k => XS.iadd X545.here hx rfl (hb hby d8_50) rfl k) ?_
    refine OGo.on (fun t k => XS.istore X545.here hx rfl (hb hby d8_51) rfl (l' := #[.val (.ref ra), .val (.int (0 : Int32)), .val (.int (0 : Int32)), .val (.int y0), .val (.int ((own_max (0 : Int32) (xm0 - (1 : Int32))) + xm0))]) rfl k) ?_
    refine OGo.on (fun t k => XS.iload X545.here hx rfl (hb hby d8_53) rfl k) ?_
    show OGo p e below s _ _ _ (T545.setTop (mkF m 55 #[.val (.ref ra), .val (.int (0 : Int32)), .val (.int (0 : Int32)), .val (.int y0), .val (.int ((own_max (0 : Int32) (xm0 - (1 : Int32))) + xm0))] [(.int ((own_max (0 : Int32) (xm0 - (1 : Int32))) + xm0))]))
    refine OGo.on (fun t k => XS.ifNo X545.here hx rfl (hb hby d8_55) rfl ((if0 _ _).trans (tlt (by have z := hz0; unfold own_cnt at z; rw [if_neg hc333] at z; exact z)).2.2.2) k) ?_
    show OGo p e below s _ _ _ (T545.setTop (mkF m 58 #[.val (.ref ra), .val (.int (0 : Int32)), .val (.int (0 : Int32)), .val (.int y0), .val (.int ((own_max (0 : Int32) (xm0 - (1 : Int32))) + xm0))] []))
    refine OGo.on (fun t k => XS.aloadN X545.here hx rfl (hb hby d8_58) rfl rfl k) ?_
    show OGo p e below s _ _ _ (T545.setTop (mkF m 59 #[.val (.ref ra), .val (.int (0 : Int32)), .val (.int (0 : Int32)), .val (.int y0), .val (.int ((own_max (0 : Int32) (xm0 - (1 : Int32))) + xm0))] [(.ref ra)]))
    obtain ⟨T546, X546, e546, st546⟩ := getF X545 hx hZ hown (host := "") (Or.inl (hw _ (List.mem_of_getElem? (i := 32) rfl))) Via.refl e545 F_weights (g := (mkF m 59 #[.val (.ref ra), .val (.int (0 : Int32)), .val (.int (0 : Int32)), .val (.int y0), .val (.int ((own_max (0 : Int32) (xm0 - (1 : Int32))) + xm0))] [(.ref ra)])) rfl rfl (hb hby d8_59)
    refine OGo.on st546 ?_
    show OGo p e below s _ _ _ (T546.setTop (mkF m 62 #[.val (.ref ra), .val (.int (0 : Int32)), .val (.int (0 : Int32)), .val (.int y0), .val (.int ((own_max (0 : Int32) (xm0 - (1 : Int32))) + xm0))] [(.ref rw)]))
    refine OGo.on (fun t k => XS.iloadN X546.here hx rfl (hb hby d8_62) rfl k) ?_
    show OGo p e below s _ _ _ (T546.setTop (mkF m 63 #[.val (.ref ra), .val (.int (0 : Int32)), .val (.int (0 : Int32)), .val (.int y0), .val (.int ((own_max (0 : Int32) (xm0 - (1 : Int32))) + xm0))] [(.int y0), (.ref rw)]))
    refine OGo.on (fun t k => XT.dup2 X546.here hx rfl (hb hby d8_63) rfl rfl rfl k) ?_
    show OGo p e below s _ _ _ (T546.setTop (mkF m 64 #[.val (.ref ra), .val (.int (0 : Int32)), .val (.int (0 : Int32)), .val (.int y0), .val (.int ((own_max (0 : Int32) (xm0 - (1 : Int32))) + xm0))] [(.int y0), (.ref rw), (.int y0), (.ref rw)]))
    refine OGo.on (fun t k => OAL.ia X546 hx hZ e546 A_w qw0 (hb hby d8_64) k) ?_
    show OGo p e below s _ _ _ (T546.setTop (mkF m 65 #[.val (.ref ra), .val (.int (0 : Int32)), .val (.int (0 : Int32)), .val (.int y0), .val (.int ((own_max (0 : Int32) (xm0 - (1 : Int32))) + xm0))] [(.int xw0), (.int y0), (.ref rw)]))
    refine OGo.on (fun t k => XS.iconst X546.here hx rfl (hb hby d8_65) k) ?_
    refine OGo.on (fun t k => XS.iadd X546.here hx rfl (hb hby d8_66) rfl k) ?_
    show OGo p e below s _ _ _ (T546.setTop (mkF m 67 #[.val (.ref ra), .val (.int (0 : Int32)), .val (.int (0 : Int32)), .val (.int y0), .val (.int ((own_max (0 : Int32) (xm0 - (1 : Int32))) + xm0))] [(.int (xw0 + (1 : Int32))), (.int y0), (.ref rw)]))
    obtain ⟨T547, h547, X547, e547, W547, A547, st547⟩ := OAL.stI X546 hx hZ e546 A_w (j := y0) (x := (xw0 + (1 : Int32))) qw0.1 (oat_lt qw0) (Ls := #[.val (.ref ra), .val (.int (0 : Int32)), .val (.int (0 : Int32)), .val (.int y0), .val (.int ((own_max (0 : Int32) (xm0 - (1 : Int32))) + xm0))]) (rest := []) (hb hby d8_67)
    have f548 : Exa Z h547 ra "com/example/slotwright/slotwright/solver/Occupancy" := E_o.wr W547
    have f549 : Fld Z h547 ra "com/example/slotwright/slotwright/solver/Occupancy" "clashing" "[I" (.ref rk) := F_clashing.other W547 (Or.inl hD.2.2.2.2.2.2.1)
    have f550 : Fld Z h547 ra "com/example/slotwright/slotwright/solver/Occupancy" "slots" "I" (.int (3 : Int32)) := F_slots.other W547 (Or.inl hD.2.2.2.2.2.2.1)
    have f551 : Fld Z h547 ra "com/example/slotwright/slotwright/solver/Occupancy" "meetings" "[I" (.ref rm) := F_meetings.other W547 (Or.inl hD.2.2.2.2.2.2.1)
    have f552 : Fld Z h547 ra "com/example/slotwright/slotwright/solver/Occupancy" "closed" "[Z" (.ref rc) := F_closed.other W547 (Or.inl hD.2.2.2.2.2.2.1)
    have f553 : Fld Z h547 ra "com/example/slotwright/slotwright/solver/Occupancy" "weights" "[I" (.ref rw) := F_weights.other W547 (Or.inl hD.2.2.2.2.2.2.1)
    have f554 : Fld Z h547 ra "com/example/slotwright/slotwright/solver/Occupancy" "listed" "[Z" (.ref rl) := F_listed.other W547 (Or.inl hD.2.2.2.2.2.2.1)
    have f555 : Fld Z h547 ra "com/example/slotwright/slotwright/solver/Occupancy" "clashingCount" "I" (.int (2 : Int32)) := F_clashingCount.other W547 (Or.inl hD.2.2.2.2.2.2.1)
    have f556 : Fld Z h547 ra "com/example/slotwright/slotwright/solver/Occupancy" "weighted" "J" (.long wd) := F_weighted.other W547 (Or.inl hD.2.2.2.2.2.2.1)
    have f557 : OAL Z h547 rm .int M := A_m.other W547 hD.2.2.2.2.2.2.2.2.2.2.1
    have f558 : OAL Z h547 rc .boolean Cl := A_c.other W547 (Ne.symm hD.2.2.2.2.2.2.2.2.2.2.2.2.2.2.1)
    have f559 : OAL Z h547 rl .boolean Li := A_l.other W547 (Ne.symm hD.2.2.2.2.2.2.2.2.2.2.2.2.2.2.2.1)
    have f560 : OAL Z h547 rk .int Ca := A_k.other W547 (Ne.symm hD.2.2.2.2.2.2.2.2.2.2.2.2.2.2.2.2.1)
    have Z561 : n0 ≤ h547.size := Nat.le_trans Z0 (Nat.le_of_eq W547.size.symm)
    have N562 := Fr.snoc X547 Nh331 hD.2.2.1
    obtain ⟨Lh563, Xh563, Nh563⟩ := own_hide X547 N562
    have V547 : OAL Z h547 rw .int (Wt.set y0.toNatClampNeg (xw0 + (1 : Int32))) := A547
    refine OGo.on st547 ?_
    show OGo p e below s _ _ _ (T547.setTop (mkF m 68 #[.val (.ref ra), .val (.int (0 : Int32)), .val (.int (0 : Int32)), .val (.int y0), .val (.int ((own_max (0 : Int32) (xm0 - (1 : Int32))) + xm0))] []))
    refine OGo.on (fun t k => XS.aloadN Xh563.here hx rfl (hb hby d8_68) rfl rfl k) ?_
    refine OGo.on (fun t k => XS.dup Xh563.here hx rfl (hb hby d8_69) rfl rfl k) ?_
    show OGo p e below s _ _ _ (T547.setTop (mkF m 70 #[.val (.ref ra), .val (.int (0 : Int32)), .val (.int (0 : Int32)), .val (.int y0), .val (.int ((own_max (0 : Int32) (xm0 - (1 : Int32))) + xm0))] [(.ref ra), (.ref ra)]))
    obtain ⟨T564, X564, e564, st564⟩ := getF Xh563 hx hZ hown (host := "") (Or.inl (hw _ (List.mem_of_getElem? (i := 46) rfl))) Via.refl e547 f556 (g := (mkF m 70 #[.val (.ref ra), .val (.int (0 : Int32)), .val (.int (0 : Int32)), .val (.int y0), .val (.int ((own_max (0 : Int32) (xm0 - (1 : Int32))) + xm0))] [(.ref ra), (.ref ra)])) rfl rfl (hb hby d8_70)
    refine OGo.on st564 ?_
    show OGo p e below s _ _ _ (T564.setTop (mkF m 73 #[.val (.ref ra), .val (.int (0 : Int32)), .val (.int (0 : Int32)), .val (.int y0), .val (.int ((own_max (0 : Int32) (xm0 - (1 : Int32))) + xm0))] [(.long wd), (.ref ra)]))
    refine OGo.on (fun t k => XS.iload X564.here hx rfl (hb hby d8_73) rfl k) ?_
    refine OGo.on (fun t k => XS.i2l X564.here hx rfl (hb hby d8_75) rfl k) ?_
    refine OGo.on (fun t k => XS.ladd X564.here hx rfl (hb hby d8_76) rfl k) ?_
    show OGo p e below s _ _ _ (T564.setTop (mkF m 77 #[.val (.ref ra), .val (.int (0 : Int32)), .val (.int (0 : Int32)), .val (.int y0), .val (.int ((own_max (0 : Int32) (xm0 - (1 : Int32))) + xm0))] [(.long (wd + (((own_max (0 : Int32) (xm0 - (1 : Int32))) + xm0).toInt64))), (.ref ra)]))
    obtain ⟨T565, h565, X565, e565, W565, st565⟩ := putF X564 hx hZ hown (host := "") (Or.inl (hw _ (List.mem_of_getElem? (i := 46) rfl))) Via.refl e564 f556 f548 (Or.inl (hw _ (List.mem_of_getElem? (i := 47) rfl))) (hw _ (List.mem_of_getElem? (i := 3) rfl)) (ty := .long) (by decide) rfl rfl (g := (mkF m 77 #[.val (.ref ra), .val (.int (0 : Int32)), .val (.int (0 : Int32)), .val (.int y0), .val (.int ((own_max (0 : Int32) (xm0 - (1 : Int32))) + xm0))] [(.long (wd + (((own_max (0 : Int32) (xm0 - (1 : Int32))) + xm0).toInt64))), (.ref ra)])) rfl rfl (hb hby d8_77)
    have f566 : Exa Z h565 ra "com/example/slotwright/slotwright/solver/Occupancy" := f548.wr W565
    have f567 : Fld Z h565 ra "com/example/slotwright/slotwright/solver/Occupancy" "clashing" "[I" (.ref rk) := f549.other W565 (Or.inr (slot_ne (Or.inl (hw _ (List.mem_of_getElem? (i := 13) rfl))) (Or.inl (hw _ (List.mem_of_getElem? (i := 47) rfl))) (by decide) (t := (.array .int)) (t' := .long) (by decide) (by decide)))
    have f568 : Fld Z h565 ra "com/example/slotwright/slotwright/solver/Occupancy" "slots" "I" (.int (3 : Int32)) := f550.other W565 (Or.inr (slot_ne (Or.inr (hw _ (List.mem_of_getElem? (i := 15) rfl))) (Or.inl (hw _ (List.mem_of_getElem? (i := 47) rfl))) (by decide) (t := .int) (t' := .long) (by decide) (by decide)))
    have f569 : Fld Z h565 ra "com/example/slotwright/slotwright/solver/Occupancy" "meetings" "[I" (.ref rm) := f551.other W565 (Or.inr (slot_ne (Or.inr (hw _ (List.mem_of_getElem? (i := 22) rfl))) (Or.inl (hw _ (List.mem_of_getElem? (i := 47) rfl))) (by decide) (t := (.array .int)) (t' := .long) (by decide) (by decide)))
    have f570 : Fld Z h565 ra "com/example/slotwright/slotwright/solver/Occupancy" "closed" "[Z" (.ref rc) := f552.other W565 (Or.inr (slot_ne (Or.inr (hw _ (List.mem_of_getElem? (i := 24) rfl))) (Or.inl (hw _ (List.mem_of_getElem? (i := 47) rfl))) (by decide) (t := (.array .boolean)) (t' := .long) (by decide) (by decide)))
    have f571 : Fld Z h565 ra "com/example/slotwright/slotwright/solver/Occupancy" "weights" "[I" (.ref rw) := f553.other W565 (Or.inr (slot_ne (Or.inr (hw _ (List.mem_of_getElem? (i := 33) rfl))) (Or.inl (hw _ (List.mem_of_getElem? (i := 47) rfl))) (by decide) (t := (.array .int)) (t' := .long) (by decide) (by decide)))
    have f572 : Fld Z h565 ra "com/example/slotwright/slotwright/solver/Occupancy" "listed" "[Z" (.ref rl) := f554.other W565 (Or.inr (slot_ne (Or.inr (hw _ (List.mem_of_getElem? (i := 35) rfl))) (Or.inl (hw _ (List.mem_of_getElem? (i := 47) rfl))) (by decide) (t := (.array .boolean)) (t' := .long) (by decide) (by decide)))
    have f573 : Fld Z h565 ra "com/example/slotwright/slotwright/solver/Occupancy" "clashingCount" "I" (.int (2 : Int32)) := f555.other W565 (Or.inr (slot_ne (Or.inl (hw _ (List.mem_of_getElem? (i := 49) rfl))) (Or.inl (hw _ (List.mem_of_getElem? (i := 47) rfl))) (by decide) (t := .int) (t' := .long) (by decide) (by decide)))
    have f574 : OAL Z h565 rm .int M := f557.other W565 (Ne.symm hD.2.2.2.2.2.1)
    have f575 : OAL Z h565 rw .int (Wt.set y0.toNatClampNeg (xw0 + (1 : Int32))) := V547.other W565 (Ne.symm hD.2.2.2.2.2.2.1)
    have f576 : OAL Z h565 rc .boolean Cl := f558.other W565 (Ne.symm hD.2.2.2.2.2.2.2.1)
    have f577 : OAL Z h565 rl .boolean Li := f559.other W565 (Ne.symm hD.2.2.2.2.2.2.2.2.1)
    have f578 : OAL Z h565 rk .int Ca := f560.other W565 (Ne.symm hD.2.2.2.2.2.2.2.2.2.1)
    have Z579 : n0 ≤ h565.size := Nat.le_trans Z561 (Nat.le_of_eq W565.size.symm)
    have N580 := Fr.snoc X565 Nh563 hD.1
    obtain ⟨Lh581, Xh581, Nh581⟩ := own_hide X565 N580
    have f582 : Fld Z h565 ra "com/example/slotwright/slotwright/solver/Occupancy" "weighted" "J" (.long (wd + (((own_max (0 : Int32) (xm0 - (1 : Int32))) + xm0).toInt64))) := f556.same W565
    refine OGo.on st565 ?_
    show OGo p e below s _ _ _ (T565.setTop (mkF m 80 #[.val (.ref ra), .val (.int (0 : Int32)), .val (.int (0 : Int32)), .val (.int y0), .val (.int ((own_max (0 : Int32) (xm0 - (1 : Int32))) + xm0))] []))
    refine OGo.on (fun t k => XS.aloadN Xh581.here hx rfl (hb hby d8_80) rfl rfl k) ?_
    show OGo p e below s _ _ _ (T565.setTop (mkF m 81 #[.val (.ref ra), .val (.int (0 : Int32)), .val (.int (0 : Int32)), .val (.int y0), .val (.int ((own_max (0 : Int32) (xm0 - (1 : Int32))) + xm0))] [(.ref ra)]))
    obtain ⟨T583, X583, e583, st583⟩ := getF Xh581 hx hZ hown (host := "") (Or.inl (hw _ (List.mem_of_getElem? (i := 12) rfl))) Via.refl e565 f567 (g := (mkF m 81 #[.val (.ref ra), .val (.int (0 : Int32)), .val (.int (0 : Int32)), .val (.int y0), .val (.int ((own_max (0 : Int32) (xm0 - (1 : Int32))) + xm0))] [(.ref ra)])) rfl rfl (hb hby d8_81)
    refine OGo.on st583 ?_
    show OGo p e below s _ _ _ (T583.setTop (mkF m 84 #[.val (.ref ra), .val (.int (0 : Int32)), .val (.int (0 : Int32)), .val (.int y0), .val (.int ((own_max (0 : Int32) (xm0 - (1 : Int32))) + xm0))] [(.ref rk)]))
    refine OGo.on (fun t k => XS.iloadN X583.here hx rfl (hb hby d8_84) rfl k) ?_
    refine OGo.on (fun t k => XS.iinc X583.here hx rfl (hb hby d8_85) rfl (l' := #[.val (.ref ra), .val (.int (1 : Int32)), .val (.int (0 : Int32)), .val (.int y0), .val (.int ((own_max (0 : Int32) (xm0 - (1 : Int32))) + xm0))]) rfl k) ?_
    refine OGo.on (fun t k => XS.iloadN X583.here hx rfl (hb hby d8_88) rfl k) ?_
    show OGo p e below s _ _ _ (T583.setTop (mkF m 89 #[.val (.ref ra), .val (.int (1 : Int32)), .val (.int (0 : Int32)), .val (.int y0), .val (.int ((own_max (0 : Int32) (xm0 - (1 : Int32))) + xm0))] [(.int y0), (.int (0 : Int32)), (.ref rk)]))
    obtain ⟨T584, h584, X584, e584, W584, A584, st584⟩ := OAL.stI X583 hx hZ e583 f578 (j := (0 : Int32)) (x := y0) (by decide) (by (try simp only [List.length_set]); rw [hca]; decide) (Ls := #[.val (.ref ra), .val (.int (1 : Int32)), .val (.int (0 : Int32)), .val (.int y0), .val (.int ((own_max (0 : Int32) (xm0 - (1 : Int32))) + xm0))]) (rest := []) (hb hby d8_89)
    have f585 : Exa Z h584 ra "com/example/slotwright/slotwright/solver/Occupancy" := f566.wr W584
    have f586 : Fld Z h584 ra "com/example/slotwright/slotwright/solver/Occupancy" "clashing" "[I" (.ref rk) := f567.other W584 (Or.inl hD.2.2.2.2.2.2.2.2.2.1)
    have f587 : Fld Z h584 ra "com/example/slotwright/slotwright/solver/Occupancy" "slots" "I" (.int (3 : Int32)) := f568.other W584 (Or.inl hD.2.2.2.2.2.2.2.2.2.1)
    have f588 : Fld Z h584 ra "com/example/slotwright/slotwright/solver/Occupancy" "meetings" "[I" (.ref rm) := f569.other W584 (Or.inl hD.2.2.2.2.2.2.2.2.2.1)
    have f589 : Fld Z h584 ra "com/example/slotwright/slotwright/solver/Occupancy" "closed" "[Z" (.ref rc) := f570.other W584 (Or.inl hD.2.2.2.2.2.2.2.2.2.1)
    have f590 : Fld Z h584 ra "com/example/slotwright/slotwright/solver/Occupancy" "weights" "[I" (.ref rw) := f571.other W584 (Or.inl hD.2.2.2.2.2.2.2.2.2.1)
    have f591 : Fld Z h584 ra "com/example/slotwright/slotwright/solver/Occupancy" "listed" "[Z" (.ref rl) := f572.other W584 (Or.inl hD.2.2.2.2.2.2.2.2.2.1)
    have f592 : Fld Z h584 ra "com/example/slotwright/slotwright/solver/Occupancy" "clashingCount" "I" (.int (2 : Int32)) := f573.other W584 (Or.inl hD.2.2.2.2.2.2.2.2.2.1)
    have f593 : Fld Z h584 ra "com/example/slotwright/slotwright/solver/Occupancy" "weighted" "J" (.long (wd + (((own_max (0 : Int32) (xm0 - (1 : Int32))) + xm0).toInt64))) := f582.other W584 (Or.inl hD.2.2.2.2.2.2.2.2.2.1)
    have f594 : OAL Z h584 rm .int M := f574.other W584 hD.2.2.2.2.2.2.2.2.2.2.2.2.2.1
    have f595 : OAL Z h584 rw .int (Wt.set y0.toNatClampNeg (xw0 + (1 : Int32))) := f575.other W584 hD.2.2.2.2.2.2.2.2.2.2.2.2.2.2.2.2.1
    have f596 : OAL Z h584 rc .boolean Cl := f576.other W584 hD.2.2.2.2.2.2.2.2.2.2.2.2.2.2.2.2.2.2.1
    have f597 : OAL Z h584 rl .boolean Li := f577.other W584 hD.2.2.2.2.2.2.2.2.2.2.2.2.2.2.2.2.2.2.2
    have Z598 : n0 ≤ h584.size := Nat.le_trans Z579 (Nat.le_of_eq W584.size.symm)
    have N599 := Fr.snoc X584 Nh581 hD.2.2.2.2.1
    obtain ⟨Lh600, Xh600, Nh600⟩ := own_hide X584 N599
    have V584 : OAL Z h584 rk .int (Ca.set (0 : Int32).toNatClampNeg y0) := A584
    refine OGo.on st584 ?_
    show OGo p e below s _ _ _ (T584.setTop (mkF m 90 #[.val (.ref ra), .val (.int (1 : Int32)), .val (.int (0 : Int32)), .val (.int y0), .val (.int ((own_max (0 : Int32) (xm0 - (1 : Int32))) + xm0))] []))
    refine OGo.on (fun t k => XS.goto Xh600.here hx rfl (pc0 := 90) (pc' := 100) rfl (hb hby d8_90) (by decide) (by decide) k) ?_
    refine OGo.on (fun t k => XS.iinc Xh600.here hx rfl (hb hby d8_100) rfl (l' := #[.val (.ref ra), .val (.int (1 : Int32)), .val (.int (1 : Int32)), .val (.int y0), .val (.int ((own_max (0 : Int32) (xm0 - (1 : Int32))) + xm0))]) rfl k) ?_
    refine OGo.on (fun t k => XS.goto Xh600.here hx rfl (pc0 := 103) (pc' := 4) rfl (hb hby d8_103) (by decide) (by decide) k) ?_
    refine OGo.on (fun t k => XS.iloadN Xh600.here hx rfl (hb hby d8_4) rfl k) ?_
    show OGo p e below s _ _ _ (T584.setTop (mkF m 5 #[.val (.ref ra), .val (.int (1 : Int32)), .val (.int (1 : Int32)), .val (.int y0), .val (.int ((own_max (0 : Int32) (xm0 - (1 : Int32))) + xm0))] [(.int (1 : Int32))]))
    refine OGo.on (fun t k => XS.aloadN Xh600.here hx rfl (hb hby d8_5) rfl rfl k) ?_
    show OGo p e below s _ _ _ (T584.setTop (mkF m 6 #[.val (.ref ra), .val (.int (1 : Int32)), .val (.int (1 : Int32)), .val (.int y0), .val (.int ((own_max (0 : Int32) (xm0 - (1 : Int32))) + xm0))] [(.ref ra), (.int (1 : Int32))]))
    obtain ⟨T601, X601, e601, st601⟩ := getF Xh600 hx hZ hown (host := "") (Or.inl (hw _ (List.mem_of_getElem? (i := 48) rfl))) Via.refl e584 f592 (g := (mkF m 6 #[.val (.ref ra), .val (.int (1 : Int32)), .val (.int (1 : Int32)), .val (.int y0), .val (.int ((own_max (0 : Int32) (xm0 - (1 : Int32))) + xm0))] [(.ref ra), (.int (1 : Int32))])) rfl rfl (hb hby d8_6)
    refine OGo.on st601 ?_
    show OGo p e below s _ _ _ (T601.setTop (mkF m 9 #[.val (.ref ra), .val (.int (1 : Int32)), .val (.int (1 : Int32)), .val (.int y0), .val (.int ((own_max (0 : Int32) (xm0 - (1 : Int32))) + xm0))] [(.int (2 : Int32)), (.int (1 : Int32))]))
    refine OGo.on (fun t k => XS.icmpNo X601.here hx rfl (hb hby d8_9) rfl (tlt (by decide)).2.1 k) ?_
    show OGo p e below s _ _ _ (T601.setTop (mkF m 12 #[.val (.ref ra), .val (.int (1 : Int32)), .val (.int (1 : Int32)), .val (.int y0), .val (.int ((own_max (0 : Int32) (xm0 - (1 : Int32))) + xm0))] []))
    refine OGo.on (fun t k => XS.aloadN X601.here hx rfl (hb hby d8_12) rfl rfl k) ?_
    show OGo p e below s _ _ _ (T601.setTop (mkF m 13 #[.val (.ref ra), .val (.int (1 : Int32)), .val (.int (1 : Int32)), .val (.int y0), .val (.int ((own_max (0 : Int32) (xm0 - (1 : Int32))) + xm0))] [(.ref ra)]))
    obtain ⟨T602, X602, e602, st602⟩ := getF X601 hx hZ hown (host := "") (Or.inl (hw _ (List.mem_of_getElem? (i := 12) rfl))) Via.refl e601 f586 (g := (mkF m 13 #[.val (.ref ra), .val (.int (1 : Int32)), .val (.int (1 : Int32)), .val (.int y0), .val (.int ((own_max (0 : Int32) (xm0 - (1 : Int32))) + xm0))] [(.ref ra)])) rfl rfl (hb hby d8_13)
    refine OGo.on st602 ?_
    show OGo p e below s _ _ _ (T602.setTop (mkF m 16 #[.val (.ref ra), .val (.int (1 : Int32)), .val (.int (1 : Int32)), .val (.int y0), .val (.int ((own_max (0 : Int32) (xm0 - (1 : Int32))) + xm0))] [(.ref rk)]))
    refine OGo.on (fun t k => XS.iloadN X602.here hx rfl (hb hby d8_16) rfl k) ?_
    show OGo p e below s _ _ _ (T602.setTop (mkF m 17 #[.val (.ref ra), .val (.int (1 : Int32)), .val (.int (1 : Int32)), .val (.int y0), .val (.int ((own_max (0 : Int32) (xm0 - (1 : Int32))) + xm0))] [(.int (1 : Int32)), (.ref rk)]))
    refine OGo.on (fun t k => OAL.ia X602 hx hZ e602 V584 (oat_ne qa1 _ (by decide)) (hb hby d8_17) k) ?_
    show OGo p e below s _ _ _ (T602.setTop (mkF m 18 #[.val (.ref ra), .val (.int (1 : Int32)), .val (.int (1 : Int32)), .val (.int y0), .val (.int ((own_max (0 : Int32) (xm0 - (1 : Int32))) + xm0))] [(.int y1)]))
    refine OGo.on (fun t k => XS.istoreN X602.here hx rfl (hb hby d8_18) rfl (l' := #[.val (.ref ra), .val (.int (1 : Int32)), .val (.int (1 : Int32)), .val (.int y1), .val (.int ((own_max (0 : Int32) (xm0 - (1 : Int32))) + xm0))]) rfl k) ?_
    refine OGo.on (fun t k => XS.iconst X602.here hx rfl (hb hby d8_19) k) ?_
    refine OGo.on (fun t k => XS.aloadN X602.here hx rfl (hb hby d8_20) rfl rfl k) ?_
    show OGo p e below s _ _ _ (T602.setTop (mkF m 21 #[.val (.ref ra), .val (.int (1 : Int32)), .val (.int (1 : Int32)), .val (.int y1), .val (.int ((own_max (0 : Int32) (xm0 - (1 : Int32))) + xm0))] [(.ref ra), (.int (0 : Int32))]))
    obtain ⟨T603, X603, e603, st603⟩ := getF X602 hx hZ hown (host := "") (Or.inl (hw _ (List.mem_of_getElem? (i := 21) rfl))) Via.refl e602 f588 (g := (mkF m 21 #[.val (.ref ra), .val (.int (1 : Int32)), .val (.int (1 : Int32)), .val (.int y1), .val (.int ((own_max (0 : Int32) (xm0 - (1 : Int32))) + xm0))] [(.ref ra), (.int (0 : Int32))])) rfl rfl (hb hby d8_21)
    refine OGo.on st603 ?_
    show OGo p e below s _ _ _ (T603.setTop (mkF m 24 #[.val (.ref ra), .val (.int (1 : Int32)), .val (.int (1 : Int32)), .val (.int y1), .val (.int ((own_max (0 : Int32) (xm0 - (1 : Int32))) + xm0))] [(.ref rm), (.int (0 : Int32))]))
    refine OGo.on (fun t k => XS.iloadN X603.here hx rfl (hb hby d8_24) rfl k) ?_
    show OGo p e below s _ _ _ (T603.setTop (mkF m 25 #[.val (.ref ra), .val (.int (1 : Int32)), .val (.int (1 : Int32)), .val (.int y1), .val (.int ((own_max (0 : Int32) (xm0 - (1 : Int32))) + xm0))] [(.int y1), (.ref rm), (.int (0 : Int32))]))
    refine OGo.on (fun t k => OAL.ia X603 hx hZ e603 f594 qm1 (hb hby d8_25) k) ?_
    show OGo p e below s _ _ _ (T603.setTop (mkF m 26 #[.val (.ref ra), .val (.int (1 : Int32)), .val (.int (1 : Int32)), .val (.int y1), .val (.int ((own_max (0 : Int32) (xm0 - (1 : Int32))) + xm0))] [(.int xm1), (.int (0 : Int32))]))
    refine OGo.on (fun t k => XS.iconst X603.here hx rfl (hb hby d8_26) k) ?_
    refine OGo.on (fun t k => XS.isub X603.here hx rfl (hb hby d8_27) rfl k) ?_
    show OGo p e below s _ _ _ (T603.setTop (mkF m 28 #[.val (.ref ra), .val (.int (1 : Int32)), .val (.int (1 : Int32)), .val (.int y1), .val (.int ((own_max (0 : Int32) (xm0 - (1 : Int32))) + xm0))] [(.int (xm1 - (1 : Int32))), (.int (0 : Int32))]))
    obtain ⟨_, _, ⟨T604, L604, k604, n604⟩, -, X604, ⟨Lc604, hQ604, l604, y604, z604⟩, st604⟩ := Jvm.LawKit.callS X603 hx (y := (⟨"java/lang/Math", "max", "(II)I"⟩ : MethodName)) hown (mvT hZ (hw _ (List.mem_of_getElem? (i := 55) rfl))) (mvT hZ (hw _ (List.mem_of_getElem? (i := 56) rfl))) (mvT hZ (hw _ (List.mem_of_getElem? (i := 57) rfl))) (mvT hZ (hw _ (List.mem_of_getElem? (i := 58) rfl))) (by decide) (backOf (W := 0) (own_mmax l Z a0 hw [] (0 : Int32) (xm1 - (1 : Int32)) h584 n0 Z598) hZ (hw _ (List.mem_of_getElem? (i := 58) rfl)) (hw _ (List.mem_of_getElem? (i := 57) rfl)) (by decide) (by decide)) (g := (mkF m 28 #[.val (.ref ra), .val (.int (1 : Int32)), .val (.int (1 : Int32)), .val (.int y1), .val (.int ((own_max (0 : Int32) (xm0 - (1 : Int32))) + xm0))] [(.int (xm1 - (1 : Int32))), (.int (0 : Int32))])) rfl (by rw [hml]; rfl) (argsL := [(.int (0 : Int32)), (.int (xm1 - (1 : Int32)))]) (rest := []) (lenOf own_pd1 rfl) rfl (by show 2 * 0 + _ ≤ _; exact Nat.le_of_eq rfl) (hb hby d8_28) (fun _ _ => ⟨rfl, e603, (by decide : 0 + 0 ≤ _), (by decide : 0 + 0 ≤ _)⟩)
    dsimp only [Pt.U, Pt.locs, Pt.cells, Pt.slots] at X604 l604 y604 z604 st604 hQ604
    subst l604 y604 z604
    obtain ⟨rfl, N604q, e604⟩ := hQ604
    have N604 := Fr.app Nh600 N604q
    obtain ⟨Lh605, Xh605, Nh605⟩ := own_hide X604 N604
    refine OGo.on st604 ?_
    show OGo p e below s _ _ _ (T604.setTop (mkF m 31 #[.val (.ref ra), .val (.int (1 : Int32)), .val (.int (1 : Int32)), .val (.int y1), .val (.int ((own_max (0 : Int32) (xm0 - (1 : Int32))) + xm0))] [(.int (own_max (0 : Int32) (xm1 - (1 : Int32))))]))
    refine OGo.on (fun t k => XS.aloadN Xh605.here hx rfl (hb hby d8_31) rfl rfl k) ?_
    show OGo p e below s _ _ _ (T604.setTop (mkF m 32 #[.val (.ref ra), .val (.int (1 : Int32)), .val (.int (1 : Int32)), .val (.int y1), .val (.int ((own_max (0 : Int32) (xm0 - (1 : Int32))) + xm0))] [(.ref ra), (.int (own_max (0 : Int32) (xm1 - (1 : Int32))))]))
    obtain ⟨T606, X606, e606, st606⟩ := getF Xh605 hx hZ hown (host := "") (Or.inl (hw _ (List.mem_of_getElem? (i := 23) rfl))) Via.refl e604 f589 (g := (mkF m 32 #[.val (.ref ra), .val (.int (1 : Int32)), .val (.int (1 : Int32)), .val (.int y1), .val (.int ((own_max (0 : Int32) (xm0 - (1 : Int32))) + xm0))] [(.ref ra), (.int (own_max (0 : Int32) (xm1 - (1 : Int32))))])) rfl rfl (hb hby d8_32)
    refine OGo.on st606 ?_
    show OGo p e below s _ _ _ (T606.setTop (mkF m 35 #[.val (.ref ra), .val (.int (1 : Int32)), .val (.int (1 : Int32)), .val (.int y1), .val (.int ((own_max (0 : Int32) (xm0 - (1 : Int32))) + xm0))] [(.ref rc), (.int (own_max (0 : Int32) (xm1 - (1 : Int32))))]))
    refine OGo.on (fun t k => XS.iloadN X606.here hx rfl (hb hby d8_35) rfl k) ?_
    show OGo p e below s _ _ _ (T606.setTop (mkF m 36 #[.val (.ref ra), .val (.int (1 : Int32)), .val (.int (1 : Int32)), .val (.int y1), .val (.int ((own_max (0 : Int32) (xm0 - (1 : Int32))) + xm0))] [(.int y1), (.ref rc), (.int (own_max (0 : Int32) (xm1 - (1 : Int32))))]))
    refine OGo.on (fun t k => OAL.baZ X606 hx hZ e606 f596 qc1 (hb hby d8_36) k) ?_
    show OGo p e below s _ _ _ (T606.setTop (mkF m 37 #[.val (.ref ra), .val (.int (1 : Int32)), .val (.int (1 : Int32)), .val (.int y1), .val (.int ((own_max (0 : Int32) (xm0 - (1 : Int32))) + xm0))] [(.int xc1), (.int (own_max (0 : Int32) (xm1 - (1 : Int32))))]))
    by_cases hc607 : xc1 = (0 : Int32)
    · refine OGo.on (fun t k => XS.ifYes X606.here hx rfl (pc0 := 37) (pc' := 49) rfl (hb hby d8_37) rfl ((if0 _ _).trans (teq hc607).1) (by decide) (by decide) k) ?_
      show OGo p e below s _ _ _ (T606.setTop (mkF m 49 #[.val (.ref ra), .val (.int (1 : Int32)), .val (.int (1 : Int32)), .val (.int y1), .val (.int ((own_max (0 : Int32) (xm0 - (1 : Int32))) + xm0))] [(.int (own_max (0 : Int32) (xm1 - (1 : Int32))))]))
      refine OGo.on (fun t k => XS.iconst X606.here hx rfl (hb hby d8_49) k) ?_
      refine OGo.on (fun t k => XS.iadd X606.here hx rfl (hb hby d8_50) rfl k) ?_
      refine OGo.on (fun t k => XS.istore X606.here hx rfl (hb hby d8_51) rfl (l' := #[.val (.ref ra), .val (.int (1 : Int32)), .val (.int (1 : Int32)), .val (.int y1), .val (.int ((own_max (0 : Int32) (xm1 - (1 : Int32))) + (0 : Int32)))]) rfl k) ?_
      refine OGo.on (fun t k => XS.iload X606.here hx rfl (hb hby d8_53) rfl k) ?_
      show OGo p e below s _ _ _ (T606.setTop (mkF m 55 #[.val (.ref ra), .val (.int (1 : Int32)), .val (.int (1 : Int32)), .val (.int y1), .val (.int ((own_max (0 : Int32) (xm1 - (1 : Int32))) + (0 : Int32)))] [(.int ((own_max (0 : Int32) (xm1 - (1 : Int32))) + (0 : Int32)))]))
      refine OGo.on (fun t k => XS.ifNo X606.here hx rfl (hb hby d8_55) rfl ((if0 _ _).trans (tlt (by have z := hz1; unfold own_cnt at z; rw [if_pos hc607] at z; exact z)).2.2.2) k) ?_
      show OGo p e below s _ _ _ (T606.setTop (mkF m 58 #[.val (.ref ra), .val (.int (1 : Int32)), .val (.int (1 : Int32)), .val (.int y1), .val (.int ((own_max (0 : Int32) (xm1 - (1 : Int32))) + (0 : Int32)))] []))
      refine OGo.on (fun t k => XS.aloadN X606.here hx rfl (hb hby d8_58) rfl rfl k) ?_
      show OGo p e below s _ _ _ (T606.setTop (mkF m 59 #[.val (.ref ra), .val (.int (1 : Int32)), .val (.int (1 : Int32)), .val (.int y1), .val (.int ((own_max (0 : Int32) (xm1 - (1 : Int32))) + (0 : Int32)))] [(.ref ra)]))
      obtain ⟨T608, X608, e608, st608⟩ := getF X606 hx hZ hown (host := "") (Or.inl (hw _ (List.mem_of_getElem? (i := 32) rfl))) Via.refl e606 f590 (g := (mkF m 59 #[.val (.ref ra), .val (.int (1 : Int32)), .val (.int (1 : Int32)), .val (.int y1), .val (.int ((own_max (0 : Int32) (xm1 - (1 : Int32))) + (0 : Int32)))] [(.ref ra)])) rfl rfl (hb hby d8_59)
      refine OGo.on st608 ?_
      show OGo p e below s _ _ _ (T608.setTop (mkF m 62 #[.val (.ref ra), .val (.int (1 : Int32)), .val (.int (1 : Int32)), .val (.int y1), .val (.int ((own_max (0 : Int32) (xm1 - (1 : Int32))) + (0 : Int32)))] [(.ref rw)]))
      refine OGo.on (fun t k => XS.iloadN X608.here hx rfl (hb hby d8_62) rfl k) ?_
      show OGo p e below s _ _ _ (T608.setTop (mkF m 63 #[.val (.ref ra), .val (.int (1 : Int32)), .val (.int (1 : Int32)), .val (.int y1), .val (.int ((own_max (0 : Int32) (xm1 - (1 : Int32))) + (0 : Int32)))] [(.int y1), (.ref rw)]))
      refine OGo.on (fun t k => XT.dup2 X608.here hx rfl (hb hby d8_63) rfl rfl rfl k) ?_
      show OGo p e below s _ _ _ (T608.setTop (mkF m 64 #[.val (.ref ra), .val (.int (1 : Int32)), .val (.int (1 : Int32)), .val (.int y1), .val (.int ((own_max (0 : Int32) (xm1 - (1 : Int32))) + (0 : Int32)))] [(.int y1), (.ref rw), (.int y1), (.ref rw)]))
      refine OGo.on (fun t k => OAL.ia X608 hx hZ e608 f595 qw1 (hb hby d8_64) k) ?_
      show OGo p e below s _ _ _ (T608.setTop (mkF m 65 #[.val (.ref ra), .val (.int (1 : Int32)), .val (.int (1 : Int32)), .val (.int y1), .val (.int ((own_max (0 : Int32) (xm1 - (1 : Int32))) + (0 : Int32)))] [(.int xw1), (.int y1), (.ref rw)]))
      refine OGo.on (fun t k => XS.iconst X608.here hx rfl (hb hby d8_65) k) ?_
      refine OGo.on (fun t k => XS.iadd X608.here hx rfl (hb hby d8_66) rfl k) ?_
      show OGo p e below s _ _ _ (T608.setTop (mkF m 67 #[.val (.ref ra), .val (.int (1 : Int32)), .val (.int (1 : Int32)), .val (.int y1), .val (.int ((own_max (0 : Int32) (xm1 - (1 : Int32))) + (0 : Int32)))] [(.int (xw1 + (1 : Int32))), (.int y1), (.ref rw)]))
      obtain ⟨T609, h609, X609, e609, W609, A609, st609⟩ := OAL.stI X608 hx hZ e608 f595 (j := y1) (x := (xw1 + (1 : Int32))) qw1.1 (oat_lt qw1) (Ls := #[.val (.ref ra), .val (.int (1 : Int32)), .val (.int (1 : Int32)), .val (.int y1), .val (.int ((own_max (0 : Int32) (xm1 - (1 : Int32))) + (0 : Int32)))]) (rest := []) (hb hby d8_67)
      have f610 : Exa Z h609 ra "com/example/slotwright/slotwright/solver/Occupancy" := f585.wr W609
      have f611 : Fld Z h609 ra "com/example/slotwright/slotwright/solver/Occupancy" "clashing" "[I" (.ref rk) := f586.other W609 (Or.inl hD.2.2.2.2.2.2.1)
      have f612 : Fld Z h609 ra "com/example/slotwright/slotwright/solver/Occupancy" "slots" "I" (.int (3 : Int32)) := f587.other W609 (Or.inl hD.2.2.2.2.2.2.1)
      have f613 : Fld Z h609 ra "com/example/slotwright/slotwright/solver/Occupancy" "meetings" "[I" (.ref rm) := f588.other W609 (Or.inl hD.2.2.2.2.2.2.1)
      have f614 : Fld Z h609 ra "com/example/slotwright/slotwright/solver/Occupancy" "closed" "[Z" (.ref rc) := f589.other W609 (Or.inl hD.2.2.2.2.2.2.1)
      have f615 : Fld Z h609 ra "com/example/slotwright/slotwright/solver/Occupancy" "weights" "[I" (.ref rw) := f590.other W609 (Or.inl hD.2.2.2.2.2.2.1)
      have f616 : Fld Z h609 ra "com/example/slotwright/slotwright/solver/Occupancy" "listed" "[Z" (.ref rl) := f591.other W609 (Or.inl hD.2.2.2.2.2.2.1)
      have f617 : Fld Z h609 ra "com/example/slotwright/slotwright/solver/Occupancy" "clashingCount" "I" (.int (2 : Int32)) := f592.other W609 (Or.inl hD.2.2.2.2.2.2.1)
      have f618 : Fld Z h609 ra "com/example/slotwright/slotwright/solver/Occupancy" "weighted" "J" (.long (wd + (((own_max (0 : Int32) (xm0 - (1 : Int32))) + xm0).toInt64))) := f593.other W609 (Or.inl hD.2.2.2.2.2.2.1)
      have f619 : OAL Z h609 rm .int M := f594.other W609 hD.2.2.2.2.2.2.2.2.2.2.1
      have f620 : OAL Z h609 rc .boolean Cl := f596.other W609 (Ne.symm hD.2.2.2.2.2.2.2.2.2.2.2.2.2.2.1)
      have f621 : OAL Z h609 rl .boolean Li := f597.other W609 (Ne.symm hD.2.2.2.2.2.2.2.2.2.2.2.2.2.2.2.1)
      have f622 : OAL Z h609 rk .int (Ca.set (0 : Int32).toNatClampNeg y0) := V584.other W609 (Ne.symm hD.2.2.2.2.2.2.2.2.2.2.2.2.2.2.2.2.1)
      have Z623 : n0 ≤ h609.size := Nat.le_trans Z598 (Nat.le_of_eq W609.size.symm)
      have N624 := Fr.snoc X609 Nh605 hD.2.2.1
      obtain ⟨Lh625, Xh625, Nh625⟩ := own_hide X609 N624
      have V609 : OAL Z h609 rw .int ((Wt.set y0.toNatClampNeg (xw0 + (1 : Int32))).set y1.toNatClampNeg (xw1 + (1 : Int32))) := A609
      refine OGo.on st609 ?_
      show OGo p e below s _ _ _ (T609.setTop (mkF m 68 #[.val (.ref ra), .val (.int (1 : Int32)), .val (.int (1 : Int32)), .val (.int y1), .val (.int ((own_max (0 : Int32) (xm1 - (1 : Int32))) + (0 : Int32)))] []))
      refine OGo.on (fun t k => XS.aloadN Xh625.here hx rfl (hb hby d8_68) rfl rfl k) ?_
      refine OGo.on (fun t k => XS.dup Xh625.here hx rfl (hb hby d8_69) rfl rfl k) ?_
      show OGo p e below s _ _ _ (T609.setTop (mkF m 70 #[.val (.ref ra), .val (.int (1 : Int32)), .val (.int (1 : Int32)), .val (.int y1), .val (.int ((own_max (0 : Int32) (xm1 - (1 : Int32))) + (0 : Int32)))] [(.ref ra), (.ref ra)]))
      obtain ⟨T626, X626, e626, st626⟩ := getF Xh625 hx hZ hown (host := "") (Or.inl (hw _ (List.mem_of_getElem? (i := 46) rfl))) Via.refl e609 f618 (g := (mkF m 70 #[.val (.ref ra), .val (.int (1 : Int32)), .val (.int (1 : Int32)), .val (.int y1), .val (.int ((own_max (0 : Int32) (xm1 - (1 : Int32))) + (0 : Int32)))] [(.ref ra), (.ref ra)])) rfl rfl (hb hby d8_70)
      refine OGo.on st626 ?_
      show OGo p e below s _ _ _ (T626.setTop (mkF m 73 #[.val (.ref ra), .val (.int (1 : Int32)), .val (.int (1 : Int32)), .val (.int y1), .val (.int ((own_max (0 : Int32) (xm1 - (1 : Int32))) + (0 : Int32)))] [(.long (wd + (((own_max (0 : Int32) (xm0 - (1 : Int32))) + xm0).toInt64))), (.ref ra)]))
      refine OGo.on (fun t k => XS.iload X626.here hx rfl (hb hby d8_73) rfl k) ?_
      refine OGo.on (fun t k => XS.i2l X626.here hx rfl (hb hby d8_75) rfl k) ?_
      refine OGo.on (fun t k => XS.ladd X626.here hx rfl (hb hby d8_76) rfl k) ?_
      show OGo p e below s _ _ _ (T626.setTop (mkF m 77 #[.val (.ref ra), .val (.int (1 : Int32)), .val (.int (1 : Int32)), .val (.int y1), .val (.int ((own_max (0 : Int32) (xm1 - (1 : Int32))) + (0 : Int32)))] [(.long ((wd + (((own_max (0 : Int32) (xm0 - (1 : Int32))) + xm0).toInt64)) + (((own_max (0 : Int32) (xm1 - (1 : Int32))) + (0 : Int32)).toInt64))), (.ref ra)]))
      obtain ⟨T627, h627, X627, e627, W627, st627⟩ := putF X626 hx hZ hown (host := "") (Or.inl (hw _ (List.mem_of_getElem? (i := 46) rfl))) Via.refl e626 f618 f610 (Or.inl (hw _ (List.mem_of_getElem? (i := 47) rfl))) (hw _ (List.mem_of_getElem? (i := 3) rfl)) (ty := .long) (by decide) rfl rfl (g := (mkF m 77 #[.val (.ref ra), .val (.int (1 : Int32)), .val (.int (1 : Int32)), .val (.int y1), .val (.int ((own_max (0 : Int32) (xm1 - (1 : Int32))) + (0 : Int32)))] [(.long ((wd + (((own_max (0 : Int32) (xm0 - (1 : Int32))) + xm0).toInt64)) + (((own_max (0 : Int32) (xm1 - (1 : Int32))) + (0 : Int32)).toInt64))), (.ref ra)])) rfl rfl (hb hby d8_77)
      have f628 : Exa Z h627 ra "com/example/slotwright/slotwright/solver/Occupancy" := f610.wr W627
      have f629 : Fld Z h627 ra "com/example/slotwright/slotwright/solver/Occupancy" "clashing" "[I" (.ref rk) := f611.other W627 (Or.inr (slot_ne (Or.inl (hw _ (List.mem_of_getElem? (i := 13) rfl))) (Or.inl (hw _ (List.mem_of_getElem? (i := 47) rfl))) (by decide) (t := (.array .int)) (t' := .long) (by decide) (by decide)))
      have f630 : Fld Z h627 ra "com/example/slotwright/slotwright/solver/Occupancy" "slots" "I" (.int (3 : Int32)) := f612.other W627 (Or.inr (slot_ne (Or.inr (hw _ (List.mem_of_getElem? (i := 15) rfl))) (Or.inl (hw _ (List.mem_of_getElem? (i := 47) rfl))) (by decide) (t := .int) (t' := .long) (by decide) (by decide)))
      have f631 : Fld Z h627 ra "com/example/slotwright/slotwright/solver/Occupancy" "meetings" "[I" (.ref rm) := f613.other W627 (Or.inr (slot_ne (Or.inr (hw _ (List.mem_of_getElem? (i := 22) rfl))) (Or.inl (hw _ (List.mem_of_getElem? (i := 47) rfl))) (by decide) (t := (.array .int)) (t' := .long) (by decide) (by decide)))
      have f632 : Fld Z h627 ra "com/example/slotwright/slotwright/solver/Occupancy" "closed" "[Z" (.ref rc) := f614.other W627 (Or.inr (slot_ne (Or.inr (hw _ (List.mem_of_getElem? (i := 24) rfl))) (Or.inl (hw _ (List.mem_of_getElem? (i := 47) rfl))) (by decide) (t := (.array .boolean)) (t' := .long) (by decide) (by decide)))
      have f633 : Fld Z h627 ra "com/example/slotwright/slotwright/solver/Occupancy" "weights" "[I" (.ref rw) := f615.other W627 (Or.inr (slot_ne (Or.inr (hw _ (List.mem_of_getElem? (i := 33) rfl))) (Or.inl (hw _ (List.mem_of_getElem? (i := 47) rfl))) (by decide) (t := (.array .int)) (t' := .long) (by decide) (by decide)))
      have f634 : Fld Z h627 ra "com/example/slotwright/slotwright/solver/Occupancy" "listed" "[Z" (.ref rl) := f616.other W627 (Or.inr (slot_ne (Or.inr (hw _ (List.mem_of_getElem? (i := 35) rfl))) (Or.inl (hw _ (List.mem_of_getElem? (i := 47) rfl))) (by decide) (t := (.array .boolean)) (t' := .long) (by decide) (by decide)))
      have f635 : Fld Z h627 ra "com/example/slotwright/slotwright/solver/Occupancy" "clashingCount" "I" (.int (2 : Int32)) := f617.other W627 (Or.inr (slot_ne (Or.inl (hw _ (List.mem_of_getElem? (i := 49) rfl))) (Or.inl (hw _ (List.mem_of_getElem? (i := 47) rfl))) (by decide) (t := .int) (t' := .long) (by decide) (by decide)))
      have f636 : OAL Z h627 rm .int M := f619.other W627 (Ne.symm hD.2.2.2.2.2.1)
      have f637 : OAL Z h627 rw .int ((Wt.set y0.toNatClampNeg (xw0 + (1 : Int32))).set y1.toNatClampNeg (xw1 + (1 : Int32))) := V609.other W627 (Ne.symm hD.2.2.2.2.2.2.1)
      have f638 : OAL Z h627 rc .boolean Cl := f620.other W627 (Ne.symm hD.2.2.2.2.2.2.2.1)
      have f639 : OAL Z h627 rl .boolean Li := f621.other W627 (Ne.symm hD.2.2.2.2.2.2.2.2.1)
      have f640 : OAL Z h627 rk .int (Ca.set (0 : Int32).toNatClampNeg y0) := f622.other W627 (Ne.symm hD.2.2.2.2.2.2.2.2.2.1)
      have Z641 : n0 ≤ h627.size := Nat.le_trans Z623 (Nat.le_of_eq W627.size.symm)
      have N642 := Fr.snoc X627 Nh625 hD.1
      obtain ⟨Lh643, Xh643, Nh643⟩ := own_hide X627 N642
      have f644 : Fld Z h627 ra "com/example/slotwright/slotwright/solver/Occupancy" "weighted" "J" (.long ((wd + (((own_max (0 : Int32) (xm0 - (1 : Int32))) + xm0).toInt64)) + (((own_max (0 : Int32) (xm1 - (1 : Int32))) + (0 : Int32)).toInt64))) := f618.same W627
      refine OGo.on st627 ?_
      show OGo p e below s _ _ _ (T627.setTop (mkF m 80 #[.val (.ref ra), .val (.int (1 : Int32)), .val (.int (1 : Int32)), .val (.int y1), .val (.int ((own_max (0 : Int32) (xm1 - (1 : Int32))) + (0 : Int32)))] []))
      refine OGo.on (fun t k => XS.aloadN Xh643.here hx rfl (hb hby d8_80) rfl rfl k) ?_
      show OGo p e below s _ _ _ (T627.setTop (mkF m 81 #[.val (.ref ra), .val (.int (1 : Int32)), .val (.int (1 : Int32)), .val (.int y1), .val (.int ((own_max (0 : Int32) (xm1 - (1 : Int32))) + (0 : Int32)))] [(.ref ra)]))
      obtain ⟨T645, X645, e645, st645⟩ := getF Xh643 hx hZ hown (host := "") (Or.inl (hw _ (List.mem_of_getElem? (i := 12) rfl))) Via.refl e627 f629 (g := (mkF m 81 #[.val (.ref ra), .val (.int (1 : Int32)), .val (.int (1 : Int32)), .val (.int y1), .val (.int ((own_max (0 : Int32) (xm1 - (1 : Int32))) + (0 : Int32)))] [(.ref ra)])) rfl rfl (hb hby d8_81)
      refine OGo.on st645 ?_
      show OGo p e below s _ _ _ (T645.setTop (mkF m 84 #[.val (.ref ra), .val (.int (1 : Int32)), .val (.int (1 : Int32)), .val (.int y1), .val (.int ((own_max (0 : Int32) (xm1 - (1 : Int32))) + (0 : Int32)))] [(.ref rk)]))
      refine OGo.on (fun t k => XS.iloadN X645.here hx rfl (hb hby d8_84) rfl k) ?_
      refine OGo.on (fun t k => XS.iinc X645.here hx rfl (hb hby d8_85) rfl (l' := #[.val (.ref ra), .val (.int (2 : Int32)), .val (.int (1 : Int32)), .val (.int y1), .val (.int ((own_max (0 : Int32) (xm1 - (1 : Int32))) + (0 : Int32)))]) rfl k) ?_
      refine OGo.on (fun t k => XS.iloadN X645.here hx rfl (hb hby d8_88) rfl k) ?_
      show OGo p e below s _ _ _ (T645.setTop (mkF m 89 #[.val (.ref ra), .val (.int (2 : Int32)), .val (.int (1 : Int32)), .val (.int y1), .val (.int ((own_max (0 : Int32) (xm1 - (1 : Int32))) + (0 : Int32)))] [(.int y1), (.int (1 : Int32)), (.ref rk)]))
      obtain ⟨T646, h646, X646, e646, W646, A646, st646⟩ := OAL.stI X645 hx hZ e645 f640 (j := (1 : Int32)) (x := y1) (by decide) (by (try simp only [List.length_set]); rw [hca]; decide) (Ls := #[.val (.ref ra), .val (.int (2 : Int32)), .val (.int (1 : Int32)), .val (.int y1), .val (.int ((own_max (0 : Int32) (xm1 - (1 : Int32))) + (0 : Int32)))]) (rest := []) (hb hby d8_89)
      have f647 : Exa Z h646 ra "com/example/slotwright/slotwright/solver/Occupancy" := f628.wr W646
      have f648 : Fld Z h646 ra "com/example/slotwright/slotwright/solver/Occupancy" "clashing" "[I" (.ref rk) := f629.other W646 (Or.inl hD.2.2.2.2.2.2.2.2.2.1)
      have f649 : Fld Z h646 ra "com/example/slotwright/slotwright/solver/Occupancy" "slots" "I" (.int (3 : Int32)) := f630.other W646 (Or.inl hD.2.2.2.2.2.2.2.2.2.1)
      have f650 : Fld Z h646 ra "com/example/slotwright/slotwright/solver/Occupancy" "meetings" "[I" (.ref rm) := f631.other W646 (Or.inl hD.2.2.2.2.2.2.2.2.2.1)
      have f651 : Fld Z h646 ra "com/example/slotwright/slotwright/solver/Occupancy" "closed" "[Z" (.ref rc) := f632.other W646 (Or.inl hD.2.2.2.2.2.2.2.2.2.1)
      have f652 : Fld Z h646 ra "com/example/slotwright/slotwright/solver/Occupancy" "weights" "[I" (.ref rw) := f633.other W646 (Or.inl hD.2.2.2.2.2.2.2.2.2.1)
      have f653 : Fld Z h646 ra "com/example/slotwright/slotwright/solver/Occupancy" "listed" "[Z" (.ref rl) := f634.other W646 (Or.inl hD.2.2.2.2.2.2.2.2.2.1)
      have f654 : Fld Z h646 ra "com/example/slotwright/slotwright/solver/Occupancy" "clashingCount" "I" (.int (2 : Int32)) := f635.other W646 (Or.inl hD.2.2.2.2.2.2.2.2.2.1)
      have f655 : Fld Z h646 ra "com/example/slotwright/slotwright/solver/Occupancy" "weighted" "J" (.long ((wd + (((own_max (0 : Int32) (xm0 - (1 : Int32))) + xm0).toInt64)) + (((own_max (0 : Int32) (xm1 - (1 : Int32))) + (0 : Int32)).toInt64))) := f644.other W646 (Or.inl hD.2.2.2.2.2.2.2.2.2.1)
      have f656 : OAL Z h646 rm .int M := f636.other W646 hD.2.2.2.2.2.2.2.2.2.2.2.2.2.1
      have f657 : OAL Z h646 rw .int ((Wt.set y0.toNatClampNeg (xw0 + (1 : Int32))).set y1.toNatClampNeg (xw1 + (1 : Int32))) := f637.other W646 hD.2.2.2.2.2.2.2.2.2.2.2.2.2.2.2.2.1
      have f658 : OAL Z h646 rc .boolean Cl := f638.other W646 hD.2.2.2.2.2.2.2.2.2.2.2.2.2.2.2.2.2.2.1
      have f659 : OAL Z h646 rl .boolean Li := f639.other W646 hD.2.2.2.2.2.2.2.2.2.2.2.2.2.2.2.2.2.2.2
      have Z660 : n0 ≤ h646.size := Nat.le_trans Z641 (Nat.le_of_eq W646.size.symm)
      have N661 := Fr.snoc X646 Nh643 hD.2.2.2.2.1
      obtain ⟨Lh662, Xh662, Nh662⟩ := own_hide X646 N661
      have V646 : OAL Z h646 rk .int ((Ca.set (0 : Int32).toNatClampNeg y0).set (1 : Int32).toNatClampNeg y1) := A646
      refine OGo.on st646 ?_
      show OGo p e below s _ _ _ (T646.setTop (mkF m 90 #[.val (.ref ra), .val (.int (2 : Int32)), .val (.int (1 : Int32)), .val (.int y1), .val (.int ((own_max (0 : Int32) (xm1 - (1 : Int32))) + (0 : Int32)))] []))
      refine OGo.on (fun t k => XS.goto Xh662.here hx rfl (pc0 := 90) (pc' := 100) rfl (hb hby d8_90) (by decide) (by decide) k) ?_
      refine OGo.on (fun t k => XS.iinc Xh662.here hx rfl (hb hby d8_100) rfl (l' := #[.val (.ref ra), .val (.int (2 : Int32)), .val (.int (2 : Int32)), .val (.int y1), .val (.int ((own_max (0 : Int32) (xm1 - (1 : Int32))) + (0 : Int32)))]) rfl k) ?_
      refine OGo.on (fun t k => XS.goto Xh662.here hx rfl (pc0 := 103) (pc' := 4) rfl (hb hby d8_103) (by decide) (by decide) k) ?_
      refine OGo.on (fun t k => XS.iloadN Xh662.here hx rfl (hb hby d8_4) rfl k) ?_
      show OGo p e below s _ _ _ (T646.setTop (mkF m 5 #[.val (.ref ra), .val (.int (2 : Int32)), .val (.int (2 : Int32)), .val (.int y1), .val (.int ((own_max (0 : Int32) (xm1 - (1 : Int32))) + (0 : Int32)))] [(.int (2 : Int32))]))
      refine OGo.on (fun t k => XS.aloadN Xh662.here hx rfl (hb hby d8_5) rfl rfl k) ?_
      show OGo p e below s _ _ _ (T646.setTop (mkF m 6 #[.val (.ref ra), .val (.int (2 : Int32)), .val (.int (2 : Int32)), .val (.int y1), .val (.int ((own_max (0 : Int32) (xm1 - (1 : Int32))) + (0 : Int32)))] [(.ref ra), (.int (2 : Int32))]))
      obtain ⟨T663, X663, e663, st663⟩ := getF Xh662 hx hZ hown (host := "") (Or.inl (hw _ (List.mem_of_getElem? (i := 48) rfl))) Via.refl e646 f654 (g := (mkF m 6 #[.val (.ref ra), .val (.int (2 : Int32)), .val (.int (2 : Int32)), .val (.int y1), .val (.int ((own_max (0 : Int32) (xm1 - (1 : Int32))) + (0 : Int32)))] [(.ref ra), (.int (2 : Int32))])) rfl rfl (hb hby d8_6)
      refine OGo.on st663 ?_
      show OGo p e below s _ _ _ (T663.setTop (mkF m 9 #[.val (.ref ra), .val (.int (2 : Int32)), .val (.int (2 : Int32)), .val (.int y1), .val (.int ((own_max (0 : Int32) (xm1 - (1 : Int32))) + (0 : Int32)))] [(.int (2 : Int32)), (.int (2 : Int32))]))
      refine OGo.on (fun t k => XS.icmpYes X663.here hx rfl (pc0 := 9) (pc' := 106) rfl (hb hby d8_9) rfl (flt (by decide)).2.1 (by decide) (by decide) k) ?_
      show OGo p e below s _ _ _ (T663.setTop (mkF m 106 #[.val (.ref ra), .val (.int (2 : Int32)), .val (.int (2 : Int32)), .val (.int y1), .val (.int ((own_max (0 : Int32) (xm1 - (1 : Int32))) + (0 : Int32)))] []))
      refine OGo.on (fun t k => XS.aloadN X663.here hx rfl (hb hby d8_106) rfl rfl k) ?_
      refine OGo.on (fun t k => XS.iloadN X663.here hx rfl (hb hby d8_107) rfl k) ?_
      show OGo p e below s _ _ _ (T663.setTop (mkF m 108 #[.val (.ref ra), .val (.int (2 : Int32)), .val (.int (2 : Int32)), .val (.int y1), .val (.int ((own_max (0 : Int32) (xm1 - (1 : Int32))) + (0 : Int32)))] [(.int (2 : Int32)), (.ref ra)]))
      obtain ⟨T664, h664, X664, e664, W664, st664⟩ := putF X663 hx hZ hown (host := "") (Or.inl (hw _ (List.mem_of_getElem? (i := 48) rfl))) Via.refl e663 f654 f647 (Or.inl (hw _ (List.mem_of_getElem? (i := 49) rfl))) (hw _ (List.mem_of_getElem? (i := 3) rfl)) (ty := .int) (by decide) rfl rfl (g := (mkF m 108 #[.val (.ref ra), .val (.int (2 : Int32)), .val (.int (2 : Int32)), .val (.int y1), .val (.int ((own_max (0 : Int32) (xm1 - (1 : Int32))) + (0 : Int32)))] [(.int (2 : Int32)), (.ref ra)])) rfl rfl (hb hby d8_108)
      have f665 : Exa Z h664 ra "com/example/slotwright/slotwright/solver/Occupancy" := f647.wr W664
      have f666 : Fld Z h664 ra "com/example/slotwright/slotwright/solver/Occupancy" "clashing" "[I" (.ref rk) := f648.other W664 (Or.inr (slot_ne (Or.inl (hw _ (List.mem_of_getElem? (i := 13) rfl))) (Or.inl (hw _ (List.mem_of_getElem? (i := 49) rfl))) (by decide) (t := (.array .int)) (t' := .int) (by decide) (by decide)))
      have f667 : Fld Z h664 ra "com/example/slotwright/slotwright/solver/Occupancy" "slots" "I" (.int (3 : Int32)) := f649.other W664 (Or.inr (slot_ne (Or.inr (hw _ (List.mem_of_getElem? (i := 15) rfl))) (Or.inl (hw _ (List.mem_of_getElem? (i := 49) rfl))) (by decide) (t := .int) (t' := .int) (by decide) (by decide)))
      have f668 : Fld Z h664 ra "com/example/slotwright/slotwright/solver/Occupancy" "meetings" "[I" (.ref rm) := f650.other W664 (Or.inr (slot_ne (Or.inr (hw _ (List.mem_of_getElem? (i := 22) rfl))) (Or.inl (hw _ (List.mem_of_getElem? (i := 49) rfl))) (by decide) (t := (.array .int)) (t' := .int) (by decide) (by decide)))
      have f669 : Fld Z h664 ra "com/example/slotwright/slotwright/solver/Occupancy" "closed" "[Z" (.ref rc) := f651.other W664 (Or.inr (slot_ne (Or.inr (hw _ (List.mem_of_getElem? (i := 24) rfl))) (Or.inl (hw _ (List.mem_of_getElem? (i := 49) rfl))) (by decide) (t := (.array .boolean)) (t' := .int) (by decide) (by decide)))
      have f670 : Fld Z h664 ra "com/example/slotwright/slotwright/solver/Occupancy" "weights" "[I" (.ref rw) := f652.other W664 (Or.inr (slot_ne (Or.inr (hw _ (List.mem_of_getElem? (i := 33) rfl))) (Or.inl (hw _ (List.mem_of_getElem? (i := 49) rfl))) (by decide) (t := (.array .int)) (t' := .int) (by decide) (by decide)))
      have f671 : Fld Z h664 ra "com/example/slotwright/slotwright/solver/Occupancy" "listed" "[Z" (.ref rl) := f653.other W664 (Or.inr (slot_ne (Or.inr (hw _ (List.mem_of_getElem? (i := 35) rfl))) (Or.inl (hw _ (List.mem_of_getElem? (i := 49) rfl))) (by decide) (t := (.array .boolean)) (t' := .int) (by decide) (by decide)))
      have f672 : Fld Z h664 ra "com/example/slotwright/slotwright/solver/Occupancy" "weighted" "J" (.long ((wd + (((own_max (0 : Int32) (xm0 - (1 : Int32))) + xm0).toInt64)) + (((own_max (0 : Int32) (xm1 - (1 : Int32))) + (0 : Int32)).toInt64))) := f655.other W664 (Or.inr (slot_ne (Or.inl (hw _ (List.mem_of_getElem? (i := 47) rfl))) (Or.inl (hw _ (List.mem_of_getElem? (i := 49) rfl))) (by decide) (t := .long) (t' := .int) (by decide) (by decide)))
      have f673 : OAL Z h664 rm .int M := f656.other W664 (Ne.symm hD.2.2.2.2.2.1)
      have f674 : OAL Z h664 rw .int ((Wt.set y0.toNatClampNeg (xw0 + (1 : Int32))).set y1.toNatClampNeg (xw1 + (1 : Int32))) := f657.other W664 (Ne.symm hD.2.2.2.2.2.2.1)
      have f675 : OAL Z h664 rc .boolean Cl := f658.other W664 (Ne.symm hD.2.2.2.2.2.2.2.1)
      have f676 : OAL Z h664 rl .boolean Li := f659.other W664 (Ne.symm hD.2.2.2.2.2.2.2.2.1)
      have f677 : OAL Z h664 rk .int ((Ca.set (0 : Int32).toNatClampNeg y0).set (1 : Int32).toNatClampNeg y1) := V646.other W664 (Ne.symm hD.2.2.2.2.2.2.2.2.2.1)
      have Z678 : n0 ≤ h664.size := Nat.le_trans Z660 (Nat.le_of_eq W664.size.symm)
      have N679 := Fr.snoc X664 Nh662 hD.1
      obtain ⟨Lh680, Xh680, Nh680⟩ := own_hide X664 N679
      have f681 : Fld Z h664 ra "com/example/slotwright/slotwright/solver/Occupancy" "clashingCount" "I" (.int (2 : Int32)) := f654.same W664
      refine OGo.on st664 ?_
      show OGo p e below s _ _ _ (T664.setTop (mkF m 111 #[.val (.ref ra), .val (.int (2 : Int32)), .val (.int (2 : Int32)), .val (.int y1), .val (.int ((own_max (0 : Int32) (xm1 - (1 : Int32))) + (0 : Int32)))] []))
      exact OGo.ret0 Xh680 hx hret hlk (hb hby d8_111) ⟨rfl, Nh680, by rw [e664]; exact Z678, by rw [e664]; exact ⟨f665, f666, f667, f668, f669, f670, f671, f681, ⟨_, f672⟩, f673, f674, f675, f676, f677⟩⟩ (by decide) (by decide)
    · refine OGo.on (fun t k => XS.ifNo X606.here hx rfl (hb hby d8_37) rfl ((if0 _ _).trans (feq hc607).1) k) ?_
      show OGo p e below s _ _ _ (T606.setTop (mkF m 40 #[.val (.ref ra), .val (.int (1 : Int32)), .val (.int (1 : Int32)), .val (.int y1), .val (.int ((own_max (0 : Int32) (xm0 - (1 : Int32))) + xm0))] [(.int (own_max (0 : Int32) (xm1 - (1 : Int32))))]))
      refine OGo.on (fun t k => XS.aloadN X606.here hx rfl (hb hby d8_40) rfl rfl k) ?_
      show OGo p e below s _ _ _ (T606.setTop (mkF m 41 #[.val (.ref ra), .val (.int (1 : Int32)), .val (.int (1 : Int32)), .val (.int y1), .val (.int ((own_max (0 : Int32) (xm0 - (1 : Int32))) + xm0))] [(.ref ra), (.int (own_max (0 : Int32) (xm1 - (1 : Int32))))]))
      obtain ⟨T682, X682, e682, st682⟩ := getF X606 hx hZ hown (host := "") (Or.inl (hw _ (List.mem_of_getElem? (i := 21) rfl))) Via.refl e606 f588 (g := (mkF m 41 #[.val (.ref ra), .val (.int (1 : Int32)), .val (.int (1 : Int32)), .val (.int y1), .val (.int ((own_max (0 : Int32) (xm0 - (1 : Int32))) + xm0))] [(.ref ra), (.int (own_max (0 : Int32) (xm1 - (1 : Int32))))])) rfl rfl (hb hby d8_41)
      refine OGo.on st682 ?_
      show OGo p e below s _ _ _ (T682.setTop (mkF m 44 #[.val (.ref ra), .val (.int (1 : Int32)), .val (.int (1 : Int32)), .val (.int y1), .val (.int ((own_max (0 : Int32) (xm0 - (1 : Int32))) + xm0))] [(.ref rm), (.int (own_max (0 : Int32) (xm1 - (1 : Int32))))]))
      refine OGo.on (fun t k => XS.iloadN X682.here hx rfl (hb hby d8_44) rfl k) ?_
      show OGo p e below s _ _ _ (T682.setTop (mkF m 45 #[.val (.ref ra), .val (.int (1 : Int32)), .val (.int (1 : Int32)), .val (.int y1), .val (.int ((own_max (0 : Int32) (xm0 - (1 : Int32))) + xm0))] [(.int y1), (.ref rm), (.int (own_max (0 : Int32) (xm1 - (1 : Int32))))]))
      refine OGo.on (fun t k => OAL.ia X682 hx hZ e682 f594 qm1 (hb hby d8_45) k) ?_
      show OGo p e below s _ _ _ (T682.setTop (mkF m 46 #[.val (.ref ra), .val (.int (1 : Int32)), .val (.int (1 : Int32)), .val (.int y1), .val (.int ((own_max (0 : Int32) (xm0 - (1 : Int32))) + xm0))] [(.int xm1), (.int (own_max (0 : Int32) (xm1 - (1 : Int32))))]))
      refine OGo.on (fun t k => XS.goto X682.here hx rfl (pc0 := 46) (pc' := 50) rfl (hb hby d8_46) (by decide) (by decide) k) ?_
      refine OGo.on (fun t k => XS.iadd X682.here hx rfl (hb hby d8_50) rfl k) ?_
      refine OGo.on (fun t k => XS.istore X682.here hx rfl (hb hby d8_51) rfl (l' := #[.val (.ref ra), .val (.int (1 : Int32)), .val (.int (1 : Int32)), .val (.int y1), .val (.int ((own_max (0 : Int32) (xm1 - (1 : Int32))) + xm1))]) rfl k) ?_
      refine OGo.on (fun t k => XS.iload X682.here hx rfl (hb hby d8_53) rfl k) ?_
      show OGo p e below s _ _ _ (T682.setTop (mkF m 55 #[.val (.ref ra), .val (.int (1 : Int32)), .val (.int (1 : Int32)), .val (.int y1), .val (.int ((own_max (0 : Int32) (xm1 - (1 : Int32))) + xm1))] [(.int ((own_max (0 : Int32) (xm1 - (1 : Int32))) + xm1))]))
      refine OGo.on (fun t k => XS.ifNo X682.here hx rfl (hb hby d8_55) rfl ((if0 _ _).trans (tlt (by have z := hz1; unfold own_cnt at z; rw [if_neg hc607] at z; exact z)).2.2.2) k) ?_
      show OGo p e below s _ _ _ (T682.setTop (mkF m 58 #[.val (.ref ra), .val (.int (1 : Int32)), .val (.int (1 : Int32)), .val (.int y1), .val (.int ((own_max (0 : Int32) (xm1 - (1 : Int32))) + xm1))] []))
      refine OGo.on (fun t k => XS.aloadN X682.here hx rfl (hb hby d8_58) rfl rfl k) ?_
      show OGo p e below s _ _ _ (T682.setTop (mkF m 59 #[.val (.ref ra), .val (.int (1 : Int32)), .val (.int (1 : Int32)), .val (.int y1), .val (.int ((own_max (0 : Int32) (xm1 - (1 : Int32))) + xm1))] [(.ref ra)]))
      obtain ⟨T683, X683, e683, st683⟩ := getF X682 hx hZ hown (host := "") (Or.inl (hw _ (List.mem_of_getElem? (i := 32) rfl))) Via.refl e682 f590 (g := (mkF m 59 #[.val (.ref ra), .val (.int (1 : Int32)), .val (.int (1 : Int32)), .val (.int y1), .val (.int ((own_max (0 : Int32) (xm1 - (1 : Int32))) + xm1))] [(.ref ra)])) rfl rfl (hb hby d8_59)
      refine OGo.on st683 ?_
      show OGo p e below s _ _ _ (T683.setTop (mkF m 62 #[.val (.ref ra), .val (.int (1 : Int32)), .val (.int (1 : Int32)), .val (.int y1), .val (.int ((own_max (0 : Int32) (xm1 - (1 : Int32))) + xm1))] [(.ref rw)]))
      refine OGo.on (fun t k => XS.iloadN X683.here hx rfl (hb hby d8_62) rfl k) ?_
      show OGo p e below s _ _ _ (T683.setTop (mkF m 63 #[.val (.ref ra), .val (.int (1 : Int32)), .val (.int (1 : Int32)), .val (.int y1), .val (.int ((own_max (0 : Int32) (xm1 - (1 : Int32))) + xm1))] [(.int y1), (.ref rw)]))
      refine OGo.on (fun t k => XT.dup2 X683.here hx rfl (hb hby d8_63) rfl rfl rfl k) ?_
      show OGo p e below s _ _ _ (T683.setTop (mkF m 64 #[.val (.ref ra), .val (.int (1 : Int32)), .val (.int (1 : Int32)), .val (.int y1), .val (.int ((own_max (0 : Int32) (xm1 - (1 : Int32))) + xm1))] [(.int y1), (.ref rw), (.int y1), (.ref rw)]))
      refine OGo.on (fun t k => OAL.ia X683 hx hZ e683 f595 qw1 (hb hby d8_64) k) ?_
      show OGo p e below s _ _ _ (T683.setTop (mkF m 65 #[.val (.ref ra), .val (.int (1 : Int32)), .val (.int (1 : Int32)), .val (.int y1), .val (.int ((own_max (0 : Int32) (xm1 - (1 : Int32))) + xm1))] [(.int xw1), (.int y1), (.ref rw)]))
      refine OGo.on (fun t k => XS.iconst X683.here hx rfl (hb hby d8_65) k) ?_
      refine OGo.on (fun t k => XS.iadd X683.here hx rfl (hb hby d8_66) rfl k) ?_
      show OGo p e below s _ _ _ (T683.setTop (mkF m 67 #[.val (.ref ra), .val (.int (1 : Int32)), .val (.int (1 : Int32)), .val (.int y1), .val (.int ((own_max (0 : Int32) (xm1 - (1 : Int32))) + xm1))] [(.int (xw1 + (1 : Int32))), (.int y1), (.ref rw)]))
      obtain ⟨T684, h684, X684, e684, W684, A684, st684⟩ := OAL.stI X683 hx hZ e683 f595 (j := y1) (x := (xw1 + (1 : Int32))) qw1.1 (oat_lt qw1) (Ls := #[.val (.ref ra), .val (.int (1 : Int32)), .val (.int (1 : Int32)), .val (.int y1), .val (.int ((own_max (0 : Int32) (xm1 - (1 : Int32))) + xm1))]) (rest := []) (hb hby d8_67)
      have f685 : Exa Z h684 ra "com/example/slotwright/slotwright/solver/Occupancy" := f585.wr W684
      have f686 : Fld Z h684 ra "com/example/slotwright/slotwright/solver/Occupancy" "clashing" "[I" (.ref rk) := f586.other W684 (Or.inl hD.2.2.2.2.2.2.1)
      have f687 : Fld Z h684 ra "com/example/slotwright/slotwright/solver/Occupancy" "slots" "I" (.int (3 : Int32)) := f587.other W684 (Or.inl hD.2.2.2.2.2.2.1)
      have f688 : Fld Z h684 ra "com/example/slotwright/slotwright/solver/Occupancy" "meetings" "[I" (.ref rm) := f588.other W684 (Or.inl hD.2.2.2.2.2.2.1)
      have f689 : Fld Z h684 ra "com/example/slotwright/slotwright/solver/Occupancy" "closed" "[Z" (.ref rc) := f589.other W684 (Or.inl hD.2.2.2.2.2.2.1)
      have f690 : Fld Z h684 ra "com/example/slotwright/slotwright/solver/Occupancy" "weights" "[I" (.ref rw) := f590.other W684 (Or.inl hD.2.2.2.2.2.2.1)
      have f691 : Fld Z h684 ra "com/example/slotwright/slotwright/solver/Occupancy" "listed" "[Z" (.ref rl) := f591.other W684 (Or.inl hD.2.2.2.2.2.2.1)
      have f692 : Fld Z h684 ra "com/example/slotwright/slotwright/solver/Occupancy" "clashingCount" "I" (.int (2 : Int32)) := f592.other W684 (Or.inl hD.2.2.2.2.2.2.1)
      have f693 : Fld Z h684 ra "com/example/slotwright/slotwright/solver/Occupancy" "weighted" "J" (.long (wd + (((own_max (0 : Int32) (xm0 - (1 : Int32))) + xm0).toInt64))) := f593.other W684 (Or.inl hD.2.2.2.2.2.2.1)
      have f694 : OAL Z h684 rm .int M := f594.other W684 hD.2.2.2.2.2.2.2.2.2.2.1
      have f695 : OAL Z h684 rc .boolean Cl := f596.other W684 (Ne.symm hD.2.2.2.2.2.2.2.2.2.2.2.2.2.2.1)
      have f696 : OAL Z h684 rl .boolean Li := f597.other W684 (Ne.symm hD.2.2.2.2.2.2.2.2.2.2.2.2.2.2.2.1)
      have f697 : OAL Z h684 rk .int (Ca.set (0 : Int32).toNatClampNeg y0) := V584.other W684 (Ne.symm hD.2.2.2.2.2.2.2.2.2.2.2.2.2.2.2.2.1)
      have Z698 : n0 ≤ h684.size := Nat.le_trans Z598 (Nat.le_of_eq W684.size.symm)
      have N699 := Fr.snoc X684 Nh605 hD.2.2.1
      obtain ⟨Lh700, Xh700, Nh700⟩ := own_hide X684 N699
      have V684 : OAL Z h684 rw .int ((Wt.set y0.toNatClampNeg (xw0 + (1 : Int32))).set y1.toNatClampNeg (xw1 + (1 : Int32))) := A684
      refine OGo.on st684 ?_
      show OGo p e below s _ _ _ (T684.setTop (mkF m 68 #[.val (.ref ra), .val (.int (1 : Int32)), .val (.int (1 : Int32)), .val (.int y1), .val (.int ((own_max (0 : Int32) (xm1 - (1 : Int32))) + xm1))] []))
      refine OGo.on (fun t k => XS.aloadN Xh700.here hx rfl (hb hby d8_68) rfl rfl k) ?_
      refine OGo.on (fun t k => XS.dup Xh700.here hx rfl (hb hby d8_69) rfl rfl k) ?_
      show OGo p e below s _ _ _ (T684.setTop (mkF m 70 #[.val (.ref ra), .val (.int (1 : Int32)), .val (.int (1 : Int32)), .val (.int y1), .val (.int ((own_max (0 : Int32) (xm1 - (1 : Int32))) + xm1))] [(.ref ra), (.ref ra)]))
      obtain ⟨T701, X701, e701, st701⟩ := getF Xh700 hx hZ hown (host := "") (Or.inl (hw _ (List.mem_of_getElem? (i := 46) rfl))) Via.refl e684 f693 (g := (mkF m 70 #[.val (.ref ra), .val (.int (1 : Int32)), .val (.int (1 : Int32)), .val (.int y1), .val (.int ((own_max (0 : Int32) (xm1 - (1 : Int32))) + xm1))] [(.ref ra), (.ref ra)])) rfl rfl (hb hby d8_70)
      refine OGo.on st701 ?_
      show OGo p e below s _ _ _ (T701.setTop (mkF m 73 #[.val (.ref ra), .val (.int (1 : Int32)), .val (.int (1 : Int32)), .val (.int y1), .val (.int ((own_max (0 : Int32) (xm1 - (1 : Int32))) + xm1))] [(.long (wd + (((own_max (0 : Int32) (xm0 - (1 : Int32))) + xm0).toInt64))), (.ref ra)]))
      refine OGo.on (fun t k => XS.iload X701.here hx rfl (hb hby d8_73) rfl k) ?_
      refine OGo.on (fun t k => XS.i2l X701.here hx rfl (hb hby d8_75) rfl k) ?_
      refine OGo.on (fun t k => XS.ladd X701.here hx rfl (hb hby d8_76) rfl k) ?_
      show OGo p e below s _ _ _ (T701.setTop (mkF m 77 #[.val (.ref ra), .val (.int (1 : Int32)), .val (.int (1 : Int32)), .val (.int y1), .val (.int ((own_max (0 : Int32) (xm1 - (1 : Int32))) + xm1))] [(.long ((wd + (((own_max (0 : Int32) (xm0 - (1 : Int32))) + xm0).toInt64)) + (((own_max (0 : Int32) (xm1 - (1 : Int32))) + xm1).toInt64))), (.ref ra)]))
      obtain ⟨T702, h702, X702, e702, W702, st702⟩ := putF X701 hx hZ hown (host := "") (Or.inl (hw _ (List.mem_of_getElem? (i := 46) rfl))) Via.refl e701 f693 f685 (Or.inl (hw _ (List.mem_of_getElem? (i := 47) rfl))) (hw _ (List.mem_of_getElem? (i := 3) rfl)) (ty := .long) (by decide) rfl rfl (g := (mkF m 77 #[.val (.ref ra), .val (.int (1 : Int32)), .val (.int (1 : Int32)), .val (.int y1), .val (.int ((own_max (0 : Int32) (xm1 - (1 : Int32))) + xm1))] [(.long ((wd + (((own_max (0 : Int32) (xm0 - (1 : Int32))) + xm0).toInt64)) + (((own_max (0 : Int32) (xm1 - (1 : Int32))) + xm1).toInt64))), (.ref ra)])) rfl rfl (hb hby d8_77)
      have f703 : Exa Z h702 ra "com/example/slotwright/slotwright/solver/Occupancy" := f685.wr W702
      have f704 : Fld Z h702 ra "com/example/slotwright/slotwright/solver/Occupancy" "clashing" "[I" (.ref rk) := f686.other W702 (Or.inr (slot_ne (Or.inl (hw _ (List.mem_of_getElem? (i := 13) rfl))) (Or.inl (hw _ (List.mem_of_getElem? (i := 47) rfl))) (by decide) (t := (.array .int)) (t' := .long) (by decide) (by decide)))
      have f705 : Fld Z h702 ra "com/example/slotwright/slotwright/solver/Occupancy" "slots" "I" (.int (3 : Int32)) := f687.other W702 (Or.inr (slot_ne (Or.inr (hw _ (List.mem_of_getElem? (i := 15) rfl))) (Or.inl (hw _ (List.mem_of_getElem? (i := 47) rfl))) (by decide) (t := .int) (t' := .long) (by decide) (by decide)))
      have f706 : Fld Z h702 ra "com/example/slotwright/slotwright/solver/Occupancy" "meetings" "[I" (.ref rm) := f688.other W702 (Or.inr (slot_ne (Or.inr (hw _ (List.mem_of_getElem? (i := 22) rfl))) (Or.inl (hw _ (List.mem_of_getElem? (i := 47) rfl))) (by decide) (t := (.array .int)) (t' := .long) (by decide) (by decide)))
      have f707 : Fld Z h702 ra "com/example/slotwright/slotwright/solver/Occupancy" "closed" "[Z" (.ref rc) := f689.other W702 (Or.inr (slot_ne (Or.inr (hw _ (List.mem_of_getElem? (i := 24) rfl))) (Or.inl (hw _ (List.mem_of_getElem? (i := 47) rfl))) (by decide) (t := (.array .boolean)) (t' := .long) (by decide) (by decide)))
      have f708 : Fld Z h702 ra "com/example/slotwright/slotwright/solver/Occupancy" "weights" "[I" (.ref rw) := f690.other W702 (Or.inr (slot_ne (Or.inr (hw _ (List.mem_of_getElem? (i := 33) rfl))) (Or.inl (hw _ (List.mem_of_getElem? (i := 47) rfl))) (by decide) (t := (.array .int)) (t' := .long) (by decide) (by decide)))
      have f709 : Fld Z h702 ra "com/example/slotwright/slotwright/solver/Occupancy" "listed" "[Z" (.ref rl) := f691.other W702 (Or.inr (slot_ne (Or.inr (hw _ (List.mem_of_getElem? (i := 35) rfl))) (Or.inl (hw _ (List.mem_of_getElem? (i := 47) rfl))) (by decide) (t := (.array .boolean)) (t' := .long) (by decide) (by decide)))
      have f710 : Fld Z h702 ra "com/example/slotwright/slotwright/solver/Occupancy" "clashingCount" "I" (.int (2 : Int32)) := f692.other W702 (Or.inr (slot_ne (Or.inl (hw _ (List.mem_of_getElem? (i := 49) rfl))) (Or.inl (hw _ (List.mem_of_getElem? (i := 47) rfl))) (by decide) (t := .int) (t' := .long) (by decide) (by decide)))
      have f711 : OAL Z h702 rm .int M := f694.other W702 (Ne.symm hD.2.2.2.2.2.1)
      have f712 : OAL Z h702 rw .int ((Wt.set y0.toNatClampNeg (xw0 + (1 : Int32))).set y1.toNatClampNeg (xw1 + (1 : Int32))) := V684.other W702 (Ne.symm hD.2.2.2.2.2.2.1)
      have f713 : OAL Z h702 rc .boolean Cl := f695.other W702 (Ne.symm hD.2.2.2.2.2.2.2.1)
      have f714 : OAL Z h702 rl .boolean Li := f696.other W702 (Ne.symm hD.2.2.2.2.2.2.2.2.1)
      have f715 : OAL Z h702 rk .int (Ca.set (0 : Int32).toNatClampNeg y0) := f697.other W702 (Ne.symm hD.2.2.2.2.2.2.2.2.2.1)
      have Z716 : n0 ≤ h702.size := Nat.le_trans Z698 (Nat.le_of_eq W702.size.symm)
      have N717 := Fr.snoc X702 Nh700 hD.1
      obtain ⟨Lh718, Xh718, Nh718⟩ := own_hide X702 N717
      have f719 : Fld Z h702 ra "com/example/slotwright/slotwright/solver/Occupancy" "weighted" "J" (.long ((wd + (((own_max (0 : Int32) (xm0 - (1 : Int32))) + xm0).toInt64)) + (((own_max (0 : Int32) (xm1 - (1 : Int32))) + xm1).toInt64))) := f693.same W702
      refine OGo.on st702 ?_
      show OGo p e below s _ _ _ (T702.setTop (mkF m 80 #[.val (.ref ra), .val (.int (1 : Int32)), .val (.int (1 : Int32)), .val (.int y1), .val (.int ((own_max (0 : Int32) (xm1 - (1 : Int32))) + xm1))] []))
      refine OGo.on (fun t k => XS.aloadN Xh718.here hx rfl (hb hby d8_80) rfl rfl k) ?_
      show OGo p e below s _ _ _ (T702.setTop (mkF m 81 #[.val (.ref ra), .val (.int (1 : Int32)), .val (.int (1 : Int32)), .val (.int y1), .val (.int ((own_max (0 : Int32) (xm1 - (1 : Int32))) + xm1))] [(.ref ra)]))
      obtain ⟨T720, X720, e720, st720⟩ := getF Xh718 hx hZ hown (host := "") (Or.inl (hw _ (List.mem_of_getElem? (i := 12) rfl))) Via.refl e702 f704 (g := (mkF m 81 #[.val (.ref ra), .val (.int (1 : Int32)), .val (.int (1 : Int32)), .val (.int y1), .val (.int ((own_max (0 : Int32) (xm1 - (1 : Int32))) + xm1))] [(.ref ra)])) rfl rfl (hb hby d8_81)
      refine OGo.on st720 ?_
      show OGo p e below s _ _ _ (T720.setTop (mkF m 84 #[.val (.ref ra), .val (.int (1 : Int32)), .val (.int (1 : Int32)), .val (.int y1), .val (.int ((own_max (0 : Int32) (xm1 - (1 : Int32))) + xm1))] [(.ref rk)]))
      refine OGo.on (fun t k => XS.iloadN X720.here hx rfl (hb hby d8_84) rfl k) ?_
      refine OGo.on (fun t k => XS.iinc X720.here hx rfl (hb hby d8_85) rfl (l' := #[.val (.ref ra), .val (.int (2 : Int32)), .val (.int (1 : Int32)), .val (.int y1), .val (.int ((own_max (0 : Int32) (xm1 - (1 : Int32))) + xm1))]) rfl k) ?_
      refine OGo.on (fun t k => XS.iloadN X720.here hx rfl (hb hby d8_88) rfl k) ?_
      show OGo p e below s _ _ _ (T720.setTop (mkF m 89 #[.val (.ref ra), .val (.int (2 : Int32)), .val (.int (1 : Int32)), .val (.int y1), .val (.int ((own_max (0 : Int32) (xm1 - (1 : Int32))) + xm1))] [(.int y1), (.int (1 : Int32)), (.ref rk)]))
      obtain ⟨T721, h721, X721, e721, W721, A721, st721⟩ := OAL.stI X720 hx hZ e720 f715 (j := (1 : Int32)) (x := y1) (by decide) (by (try simp only [List.length_set]); rw [hca]; decide) (Ls := #[.val (.ref ra), .val (.int (2 : Int32)), .val (.int (1 : Int32)), .val (.int y1), .val (.int ((own_max (0 : Int32) (xm1 - (1 : Int32))) + xm1))]) (rest := []) (hb hby d8_89)
      have f722 : Exa Z h721 ra "com/example/slotwright/slotwright/solver/Occupancy" := f703.wr W721
      have f723 : Fld Z h721 ra "com/example/slotwright/slotwright/solver/Occupancy" "clashing" "[I" (.ref rk) := f704.other W721 (Or.inl hD.2.2.2.2.2.2.2.2.2.1)
      have f724 : Fld Z h721 ra "com/example/slotwright/slotwright/solver/Occupancy" "slots" "I" (.int (3 : Int32)) := f705.other W721 (Or.inl hD.2.2.2.2.2.2.2.2.2.1)
      have f725 : Fld Z h721 ra "com/example/slotwright/slotwright/solver/Occupancy" "meetings" "[I" (.ref rm) := f706.other W721 (Or.inl hD.2.2.2.2.2.2.2.2.2.1)
      have f726 : Fld Z h721 ra "com/example/slotwright/slotwright/solver/Occupancy" "closed" "[Z" (.ref rc) := f707.other W721 (Or.inl hD.2.2.2.2.2.2.2.2.2.1)
      have f727 : Fld Z h721 ra "com/example/slotwright/slotwright/solver/Occupancy" "weights" "[I" (.ref rw) := f708.other W721 (Or.inl hD.2.2.2.2.2.2.2.2.2.1)
      have f728 : Fld Z h721 ra "com/example/slotwright/slotwright/solver/Occupancy" "listed" "[Z" (.ref rl) := f709.other W721 (Or.inl hD.2.2.2.2.2.2.2.2.2.1)
      have f729 : Fld Z h721 ra "com/example/slotwright/slotwright/solver/Occupancy" "clashingCount" "I" (.int (2 : Int32)) := f710.other W721 (Or.inl hD.2.2.2.2.2.2.2.2.2.1)
      have f730 : Fld Z h721 ra "com/example/slotwright/slotwright/solver/Occupancy" "weighted" "J" (.long ((wd + (((own_max (0 : Int32) (xm0 - (1 : Int32))) + xm0).toInt64)) + (((own_max (0 : Int32) (xm1 - (1 : Int32))) + xm1).toInt64))) := f719.other W721 (Or.inl hD.2.2.2.2.2.2.2.2.2.1)
      have f731 : OAL Z h721 rm .int M := f711.other W721 hD.2.2.2.2.2.2.2.2.2.2.2.2.2.1
      have f732 : OAL Z h721 rw .int ((Wt.set y0.toNatClampNeg (xw0 + (1 : Int32))).set y1.toNatClampNeg (xw1 + (1 : Int32))) := f712.other W721 hD.2.2.2.2.2.2.2.2.2.2.2.2.2.2.2.2.1
      have f733 : OAL Z h721 rc .boolean Cl := f713.other W721 hD.2.2.2.2.2.2.2.2.2.2.2.2.2.2.2.2.2.2.1
      have f734 : OAL Z h721 rl .boolean Li := f714.other W721 hD.2.2.2.2.2.2.2.2.2.2.2.2.2.2.2.2.2.2.2
      have Z735 : n0 ≤ h721.size := Nat.le_trans Z716 (Nat.le_of_eq W721.size.symm)
      have N736 := Fr.snoc X721 Nh718 hD.2.2.2.2.1
      obtain ⟨Lh737, Xh737, Nh737⟩ := own_hide X721 N736
      have V721 : OAL Z h721 rk .int ((Ca.set (0 : Int32).toNatClampNeg y0).set (1 : Int32).toNatClampNeg y1) := A721
      refine OGo.on st721 ?_
      show OGo p e below s _ _ _ (T721.setTop (mkF m 90 #[.val (.ref ra), .val (.int (2 : Int32)), .val (.int (1 : Int32)), .val (.int y1), .val (.int ((own_max (0 : Int32) (xm1 - (1 : Int32))) + xm1))] []))
      refine OGo.on (fun t k => XS.goto Xh737.here hx rfl (pc0 := 90) (pc' := 100) rfl (hb hby d8_90) (by decide) (by decide) k) ?_
      refine OGo.on (fun t k => XS.iinc Xh737.here hx rfl (hb hby d8_100) rfl (l' := #[.val (.ref ra), .val (.int (2 : Int32)), .val (.int (2 : Int32)), .val (.int y1), .val (.int ((own_max (0 : Int32) (xm1 - (1 : Int32))) + xm1))]) rfl k) ?_
      refine OGo.on (fun t k => XS.goto Xh737.here hx rfl (pc0 := 103) (pc' := 4) rfl (hb hby d8_103) (by decide) (by decide) k) ?_
      refine OGo.on (fun t k => XS.iloadN Xh737.here hx rfl (hb hby d8_4) rfl k) ?_
      show OGo p e below s _ _ _ (T721.setTop (mkF m 5 #[.val (.ref ra), .val (.int (2 : Int32)), .val (.int (2 : Int32)), .val (.int y1), .val (.int ((own_max (0 : Int32) (xm1 - (1 : Int32))) + xm1))] [(.int (2 : Int32))]))
      refine OGo.on (fun t k => XS.aloadN Xh737.here hx rfl (hb hby d8_5) rfl rfl k) ?_
      show OGo p e below s _ _ _ (T721.setTop (mkF m 6 #[.val (.ref ra), .val (.int (2 : Int32)), .val (.int (2 : Int32)), .val (.int y1), .val (.int ((own_max (0 : Int32) (xm1 - (1 : Int32))) + xm1))] [(.ref ra), (.int (2 : Int32))]))
      obtain ⟨T738, X738, e738, st738⟩ := getF Xh737 hx hZ hown (host := "") (Or.inl (hw _ (List.mem_of_getElem? (i := 48) rfl))) Via.refl e721 f729 (g := (mkF m 6 #[.val (.ref ra), .val (.int (2 : Int32)), .val (.int (2 : Int32)), .val (.int y1), .val (.int ((own_max (0 : Int32) (xm1 - (1 : Int32))) + xm1))] [(.ref ra), (.int (2 : Int32))])) rfl rfl (hb hby d8_6)
      refine OGo.on st738 ?_
      show OGo p e below s _ _ _ (T738.setTop (mkF m 9 #[.val (.ref ra), .val (.int (2 : Int32)), .val (.int (2 : Int32)), .val (.int y1), .val (.int ((own_max (0 : Int32) (xm1 - (1 : Int32))) + xm1))] [(.int (2 : Int32)), (.int (2 : Int32))]))
      refine OGo.on (fun t k => XS.icmpYes X738.here hx rfl (pc0 := 9) (pc' := 106) rfl (hb hby d8_9) rfl (flt (by decide)).2.1 (by decide) (by decide) k) ?_
      show OGo p e below s _ _ _ (T738.setTop (mkF m 106 #[.val (.ref ra), .val (.int (2 : Int32)), .val (.int (2 : Int32)), .val (.int y1), .val (.int ((own_max (0 : Int32) (xm1 - (1 : Int32))) + xm1))] []))
      refine OGo.on (fun t k => XS.aloadN X738.here hx rfl (hb hby d8_106) rfl rfl k) ?_
      refine OGo.on (fun t k => XS.iloadN X738.here hx rfl (hb hby d8_107) rfl k) ?_
      show OGo p e below s _ _ _ (T738.setTop (mkF m 108 #[.val (.ref ra), .val (.int (2 : Int32)), .val (.int (2 : Int32)), .val (.int y1), .val (.int ((own_max (0 : Int32) (xm1 - (1 : Int32))) + xm1))] [(.int (2 : Int32)), (.ref ra)]))
      obtain ⟨T739, h739, X739, e739, W739, st739⟩ := putF X738 hx hZ hown (host := "") (Or.inl (hw _ (List.mem_of_getElem? (i := 48) rfl))) Via.refl e738 f729 f722 (Or.inl (hw _ (List.mem_of_getElem? (i := 49) rfl))) (hw _ (List.mem_of_getElem? (i := 3) rfl)) (ty := .int) (by decide) rfl rfl (g := (mkF m 108 #[.val (.ref ra), .val (.int (2 : Int32)), .val (.int (2 : Int32)), .val (.int y1), .val (.int ((own_max (0 : Int32) (xm1 - (1 : Int32))) + xm1))] [(.int (2 : Int32)), (.ref ra)])) rfl rfl (hb hby d8_108)
      have f740 : Exa Z h739 ra "com/example/slotwright/slotwright/solver/Occupancy" := f722.wr W739
      have f741 : Fld Z h739 ra "com/example/slotwright/slotwright/solver/Occupancy" "clashing" "[I" (.ref rk) := f723.other W739 (Or.inr (slot_ne (Or.inl (hw _ (List.mem_of_getElem? (i := 13) rfl))) (Or.inl (hw _ (List.mem_of_getElem? (i := 49) rfl))) (by decide) (t := (.array .int)) (t' := .int) (by decide) (by decide)))
      have f742 : Fld Z h739 ra "com/example/slotwright/slotwright/solver/Occupancy" "slots" "I" (.int (3 : Int32)) := f724.other W739 (Or.inr (slot_ne (Or.inr (hw _ (List.mem_of_getElem? (i := 15) rfl))) (Or.inl (hw _ (List.mem_of_getElem? (i := 49) rfl))) (by decide) (t := .int) (t' := .int) (by decide) (by decide)))
      have f743 : Fld Z h739 ra "com/example/slotwright/slotwright/solver/Occupancy" "meetings" "[I" (.ref rm) := f725.other W739 (Or.inr (slot_ne (Or.inr (hw _ (List.mem_of_getElem? (i := 22) rfl))) (Or.inl (hw _ (List.mem_of_getElem? (i := 49) rfl))) (by decide) (t := (.array .int)) (t' := .int) (by decide) (by decide)))
      have f744 : Fld Z h739 ra "com/example/slotwright/slotwright/solver/Occupancy" "closed" "[Z" (.ref rc) := f726.other W739 (Or.inr (slot_ne (Or.inr (hw _ (List.mem_of_getElem? (i := 24) rfl))) (Or.inl (hw _ (List.mem_of_getElem? (i := 49) rfl))) (by decide) (t := (.array .boolean)) (t' := .int) (by decide) (by decide)))
      have f745 : Fld Z h739 ra "com/example/slotwright/slotwright/solver/Occupancy" "weights" "[I" (.ref rw) := f727.other W739 (Or.inr (slot_ne (Or.inr (hw _ (List.mem_of_getElem? (i := 33) rfl))) (Or.inl (hw _ (List.mem_of_getElem? (i := 49) rfl))) (by decide) (t := (.array .int)) (t' := .int) (by decide) (by decide)))
      have f746 : Fld Z h739 ra "com/example/slotwright/slotwright/solver/Occupancy" "listed" "[Z" (.ref rl) := f728.other W739 (Or.inr (slot_ne (Or.inr (hw _ (List.mem_of_getElem? (i := 35) rfl))) (Or.inl (hw _ (List.mem_of_getElem? (i := 49) rfl))) (by decide) (t := (.array .boolean)) (t' := .int) (by decide) (by decide)))
      have f747 : Fld Z h739 ra "com/example/slotwright/slotwright/solver/Occupancy" "weighted" "J" (.long ((wd + (((own_max (0 : Int32) (xm0 - (1 : Int32))) + xm0).toInt64)) + (((own_max (0 : Int32) (xm1 - (1 : Int32))) + xm1).toInt64))) := f730.other W739 (Or.inr (slot_ne (Or.inl (hw _ (List.mem_of_getElem? (i := 47) rfl))) (Or.inl (hw _ (List.mem_of_getElem? (i := 49) rfl))) (by decide) (t := .long) (t' := .int) (by decide) (by decide)))
      have f748 : OAL Z h739 rm .int M := f731.other W739 (Ne.symm hD.2.2.2.2.2.1)
      have f749 : OAL Z h739 rw .int ((Wt.set y0.toNatClampNeg (xw0 + (1 : Int32))).set y1.toNatClampNeg (xw1 + (1 : Int32))) := f732.other W739 (Ne.symm hD.2.2.2.2.2.2.1)
      have f750 : OAL Z h739 rc .boolean Cl := f733.other W739 (Ne.symm hD.2.2.2.2.2.2.2.1)
      have f751 : OAL Z h739 rl .boolean Li := f734.other W739 (Ne.symm hD.2.2.2.2.2.2.2.2.1)
      have f752 : OAL Z h739 rk .int ((Ca.set (0 : Int32).toNatClampNeg y0).set (1 : Int32).toNatClampNeg y1) := V721.other W739 (Ne.symm hD.2.2.2.2.2.2.2.2.2.1)
      have Z753 : n0 ≤ h739.size := Nat.le_trans Z735 (Nat.le_of_eq W739.size.symm)
      have N754 := Fr.snoc X739 Nh737 hD.1
      obtain ⟨Lh755, Xh755, Nh755⟩ := own_hide X739 N754
      have f756 : Fld Z h739 ra "com/example/slotwright/slotwright/solver/Occupancy" "clashingCount" "I" (.int (2 : Int32)) := f729.same W739
      refine OGo.on st739 ?_
      show OGo p e below s _ _ _ (T739.setTop (mkF m 111 #[.val (.ref ra), .val (.int (2 : Int32)), .val (.int (2 : Int32)), .val (.int y1), .val (.int ((own_max (0 : Int32) (xm1 - (1 : Int32))) + xm1))] []))
      exact OGo.ret0 Xh755 hx hret hlk (hb hby d8_111) ⟨rfl, Nh755, by rw [e739]; exact Z753, by rw [e739]; exact ⟨f740, f741, f742, f743, f744, f745, f746, f756, ⟨_, f747⟩, f748, f749, f750, f751, f752⟩⟩ (by decide) (by decide)
theorem own_pn1 : plainName "com/example/slotwright/slotwright/solver/Tables" = true := by first | (simp [plainName, overriddenIn]; done) | decide +kernel
theorem ef_own_mcells (m : MethodId) (x0 : Int32) (x1 : Int32) : entryFrame m #[(.int x0), (.int x1)] 4 = mkF m 0 #[.val (.int x0), .val (.int x1), .unset, .unset] [] := by first | (simp [entryFrame, mkF, argsToLocals, Value.category]; done) | rfl
theorem d3_0 : decode prog_67_method_2_code 0 = .ok (.iload_n 0, 1) := by decide +kernel
theorem d3_1 : decode prog_67_method_2_code 1 = .ok (.i2l, 1) := by decide +kernel
theorem d3_2 : decode prog_67_method_2_code 2 = .ok (.iload_n 1, 1) := by decide +kernel
theorem d3_3 : decode prog_67_method_2_code 3 = .ok (.i2l, 1) := by decide +kernel
theorem d3_4 : decode prog_67_method_2_code 4 = .ok (.lmul, 1) := by decide +kernel
theorem d3_5 : decode prog_67_method_2_code 5 = .ok (.lstore_n 2, 1) := by decide +kernel
theorem d3_6 : decode prog_67_method_2_code 6 = .ok (.lload_n 2, 1) := by decide +kernel
theorem d3_7 : decode prog_67_method_2_code 7 = .ok (.ldc2_w 9, 3) := by decide +kernel
theorem d3_10 : decode prog_67_method_2_code 10 = .ok (.lcmp, 1) := by decide +kernel
theorem d3_11 : decode prog_67_method_2_code 11 = .ok (.ifCond .le 18, 3) := by decide +kernel
theorem d3_29 : decode prog_67_method_2_code 29 = .ok (.lload_n 2, 1) := by decide +kernel
theorem d3_30 : decode prog_67_method_2_code 30 = .ok (.l2i, 1) := by decide +kernel
theorem d3_31 : decode prog_67_method_2_code 31 = .ok (.ireturn, 1) := by decide +kernel
set_option maxRecDepth 65536 in
set_option maxHeartbeats 40000000 in
theorem own_mcells (l : Launch) (Z : State) (a0 : Array Value) (hw : ∀ d ∈ tables_1, d.before a0 Z = true) (ws : List Jvm.Cond)  (h0 : Heap) (n0 : Nat) (Z0 : n0 ≤ h0.size)  :
    MetFree l (⟨"com/example/slotwright/slotwright/solver/Tables", "cells", "(II)I"⟩ : MethodName) (head1 (Jvm.Cond.code (⟨"com/example/slotwright/slotwright/solver/Tables", "cells", "(II)I"⟩ : MethodName) prog_67_method_2_code 4 (some .int) :: ws) ({ frames := 0, cells := 0, slots := 0, locals := 0 } : Room)) (fun a U => a = #[(.int (2 : Int32)), (.int (3 : Int32))] ∧ Z.Warmed39 U.vm ∧ U.heap = h0) (fun _ _ _ _ _ => True) (fun _ U o U' => ∃ v L, o = .returned v ∧ (OPure n0 h0 (some (.int (6 : Int32)))) v U'.heap L ∧ FrameEnd U o U' L ({ frames := 0, cells := 0, slots := 0, locals := 0 } : Room).cells ({ frames := 0, cells := 0, slots := 0, locals := 0 } : Room).slots) := by
  refine MetFree.of_bodySF (plainFor_of_name own_pn1) hisR ?_
  intro p e s m args below meth c s₁ Bd hml0 hP hK
  obtain ⟨rfl, hZ, hh⟩ := hP
  have hx := Bd.exec
  have hby := Bd.bytes
  have hret := Bd.returns
  have hlk : meth.locks = false := Bd.notSynchronized
  have hml : c.maxLocals = 4 := hml0
  have hown : s.vm.findClass "com/example/slotwright/slotwright/solver/Tables" = some m.cls := findClass_of_methodNamed Bd.named
  have hnm := (name_of_methodNamed Bd.named Bd.method).1
  have X0 : Stand p l e ({ frames := 0, cells := 0, slots := 0, locals := 0 } : Room) s m #[(.int (2 : Int32)), (.int (3 : Int32))] below meth c s₁ [] 0 0 := Stand.of_body Bd
  have e0 : s₁.heap = h0 := by rw [← hh, Bd.state]; rfl
  have N0 := Fr.nil n0
  have pre0 : ∀ t, Steps p.tables e below (s₁.setTop (mkF m 0 #[.val (.int (2 : Int32)), .val (.int (3 : Int32)), .unset, .unset] [])) t → Steps p.tables e below (s₁.setTop (entryFrame m #[(.int (2 : Int32)), (.int (3 : Int32))] 4)) t := fun t k => castTop (ef_own_mcells m (2 : Int32) (3 : Int32)) k
  show OGo p e below s (OPure n0 h0 (some (.int (6 : Int32)))) ({ frames := 0, cells := 0, slots := 0, locals := 0 } : Room).cells ({ frames := 0, cells := 0, slots := 0, locals := 0 } : Room).slots (s₁.setTop (entryFrame m #[(.int (2 : Int32)), (.int (3 : Int32))] 4))
  refine OGo.on pre0 ?_
  show OGo p e below s _ _ _ (s₁.setTop (mkF m 0 #[.val (.int (2 : Int32)), .val (.int (3 : Int32)), .unset, .unset] []))
  refine OGo.on (fun t k => XS.iloadN X0.here hx rfl (hb hby d3_0) rfl k) ?_
  refine OGo.on (fun t k => XS.i2l X0.here hx rfl (hb hby d3_1) rfl k) ?_
  refine OGo.on (fun t k => XS.iloadN X0.here hx rfl (hb hby d3_2) rfl k) ?_
  refine OGo.on (fun t k => XS.i2l X0.here hx rfl (hb hby d3_3) rfl k) ?_
  show OGo p e below s _ _ _ (s₁.setTop (mkF m 4 #[.val (.int (2 : Int32)), .val (.int (3 : Int32)), .unset, .unset] [(.long (3 : Int64)), (.long (2 : Int64))]))
  refine OGo.on (fun t k => XS.lmul X0.here hx rfl (hb hby d3_4) rfl k) ?_
  refine OGo.on (fun t k => XS.lstoreN X0.here hx rfl (hb hby d3_5) rfl (l' := #[.val (.int (2 : Int32)), .val (.int (3 : Int32)), .val (.long (6 : Int64)), .second]) rfl k) ?_
  refine OGo.on (fun t k => XS.lloadN X0.here hx rfl (hb hby d3_6) rfl k) ?_
  show OGo p e below s _ _ _ (s₁.setTop (mkF m 7 #[.val (.int (2 : Int32)), .val (.int (3 : Int32)), .val (.long (6 : Int64)), .second] [(.long (6 : Int64))]))
  refine OGo.on (fun t k => X0.ldc2J hx hown (mvT hZ (hw _ (List.mem_of_getElem? (i := 20) rfl))) (g := (mkF m 7 #[.val (.int (2 : Int32)), .val (.int (3 : Int32)), .val (.long (6 : Int64)), .second] [(.long (6 : Int64))])) rfl (hb hby d3_7) k) ?_
  show OGo p e below s _ _ _ (s₁.setTop (mkF m 10 #[.val (.int (2 : Int32)), .val (.int (3 : Int32)), .val (.long (6 : Int64)), .second] [(.long (2147483647 : Int64)), (.long (6 : Int64))]))
  refine OGo.on (fun t k => XS.lcmp X0.here hx rfl (hb hby d3_10) rfl k) ?_
  show OGo p e below s _ _ _ (s₁.setTop (mkF m 11 #[.val (.int (2 : Int32)), .val (.int (3 : Int32)), .val (.long (6 : Int64)), .second] [(.int (lcmpW (6 : Int64) (2147483647 : Int64)))]))
  refine OGo.on (fun t k => XS.ifYes X0.here hx rfl (pc0 := 11) (pc' := 29) rfl (hb hby d3_11) rfl (lc_flt (by decide)).2.2.2 (by decide) (by decide) k) ?_
  show OGo p e below s _ _ _ (s₁.setTop (mkF m 29 #[.val (.int (2 : Int32)), .val (.int (3 : Int32)), .val (.long (6 : Int64)), .second] []))
  refine OGo.on (fun t k => XS.lloadN X0.here hx rfl (hb hby d3_29) rfl k) ?_
  refine OGo.on (fun t k => XS.l2i X0.here hx rfl (hb hby d3_30) rfl k) ?_
  show OGo p e below s _ _ _ (s₁.setTop (mkF m 31 #[.val (.int (2 : Int32)), .val (.int (3 : Int32)), .val (.long (6 : Int64)), .second] [(.int (6 : Int32))]))
  exact OGo.retI X0 hx hret hlk (hb hby d3_31) (opI rfl N0 e0) (by decide) (by decide)
def Q_own_mfill (Z : State) (rb : Addr) (xv : Int32) (h0 : Heap) (n0 : Nat) (v : Option Value) (h : Heap) (L : List Loc) : Prop := v = none ∧ Fr n0 L ∧ Keep h0 h [rb] ∧ OAL Z h rb .int [xv, xv, xv, xv, xv, xv]
theorem own_pn2 : plainName "java/util/Arrays" = true := by first | (simp [plainName, overriddenIn]; done) | decide +kernel
theorem ef_own_mfill (m : MethodId) (x0 : Addr) (x1 : Int32) : entryFrame m #[(.ref x0), (.int x1)] 4 = mkF m 0 #[.val (.ref x0), .val (.int x1), .unset, .unset] [] := by first | (simp [entryFrame, mkF, argsToLocals, Value.category]; done) | rfl
theorem d5_0 : decode jdk_65_method_103_code 0 = .ok (.iconst 0, 1) := by decide +kernel
theorem d5_1 : decode jdk_65_method_103_code 1 = .ok (.istore_n 2, 1) := by decide +kernel
theorem d5_2 : decode jdk_65_method_103_code 2 = .ok (.aload_n 0, 1) := by decide +kernel
theorem d5_3 : decode jdk_65_method_103_code 3 = .ok (.arraylength, 1) := by decide +kernel
theorem d5_4 : decode jdk_65_method_103_code 4 = .ok (.istore_n 3, 1) := by decide +kernel
theorem d5_5 : decode jdk_65_method_103_code 5 = .ok (.iload_n 2, 1) := by decide +kernel
theorem d5_6 : decode jdk_65_method_103_code 6 = .ok (.iload_n 3, 1) := by decide +kernel
theorem d5_7 : decode jdk_65_method_103_code 7 = .ok (.if_icmp .ge 13, 3) := by decide +kernel
theorem d5_10 : decode jdk_65_method_103_code 10 = .ok (.aload_n 0, 1) := by decide +kernel
theorem d5_11 : decode jdk_65_method_103_code 11 = .ok (.iload_n 2, 1) := by decide +kernel
theorem d5_12 : decode jdk_65_method_103_code 12 = .ok (.iload_n 1, 1) := by decide +kernel
theorem d5_13 : decode jdk_65_method_103_code 13 = .ok (.iastore, 1) := by decide +kernel
theorem d5_14 : decode jdk_65_method_103_code 14 = .ok (.iinc 2 1, 3) := by decide +kernel
theorem d5_17 : decode jdk_65_method_103_code 17 = .ok (.goto (-12), 3) := by decide +kernel
theorem d5_20 : decode jdk_65_method_103_code 20 = .ok (.return_, 1) := by decide +kernel
set_option maxRecDepth 65536 in
set_option maxHeartbeats 40000000 in
theorem own_mfill (l : Launch) (Z : State) (a0 : Array Value) (hw : ∀ d ∈ tables_1, d.before a0 Z = true) (ws : List Jvm.Cond) (rb : Addr) (xv : Int32) (h0 : Heap) (n0 : Nat) (Z0 : n0 ≤ h0.size) (g_rb : n0 ≤ rb) (A0 : OAL Z h0 rb .int [(0 : Int32), (0 : Int32), (0 : Int32), (0 : Int32), (0 : Int32), (0 : Int32)]) :
    MetFree l (⟨"java/util/Arrays", "fill", "([II)V"⟩ : MethodName) (head1 (Jvm.Cond.code (⟨"java/util/Arrays", "fill", "([II)V"⟩ : MethodName) jdk_65_method_103_code 4 none :: ws) ({ frames := 0, cells := 0, slots := 0, locals := 0 } : Room)) (fun a U => a = #[(.ref rb), (.int xv)] ∧ Z.Warmed39 U.vm ∧ U.heap = h0) (fun _ _ _ _ _ => True) (fun _ U o U' => ∃ v L, o = .returned v ∧ (Q_own_mfill Z rb xv h0 n0) v U'.heap L ∧ FrameEnd U o U' L ({ frames := 0, cells := 0, slots := 0, locals := 0 } : Room).cells ({ frames := 0, cells := 0, slots := 0, locals := 0 } : Room).slots) := by
  refine MetFree.of_bodySF (plainFor_of_name own_pn2) hisR ?_
  intro p e s m args below meth c s₁ Bd hml0 hP hK
  obtain ⟨rfl, hZ, hh⟩ := hP
  have hx := Bd.exec
  have hby := Bd.bytes
  have hret := Bd.returns
  have hlk : meth.locks = false := Bd.notSynchronized
  have hml : c.maxLocals = 4 := hml0
  have hown : s.vm.findClass "java/util/Arrays" = some m.cls := findClass_of_methodNamed Bd.named
  have hnm := (name_of_methodNamed Bd.named Bd.method).1
  have X0 : Stand p l e ({ frames := 0, cells := 0, slots := 0, locals := 0 } : Room) s m #[(.ref rb), (.int xv)] below meth c s₁ [] 0 0 := Stand.of_body Bd
  have e0 : s₁.heap = h0 := by rw [← hh, Bd.state]; rfl
  have N0 := Fr.nil n0
  have pre0 : ∀ t, Steps p.tables e below (s₁.setTop (mkF m 0 #[.val (.ref rb), .val (.int xv), .unset, .unset] [])) t → Steps p.tables e below (s₁.setTop (entryFrame m #[(.ref rb), (.int xv)] 4)) t := fun t k => castTop (ef_own_mfill m rb xv) k
  have K0 : Keep h0 h0 [rb] := Keep.refl _ _
  show OGo p e below s (Q_own_mfill Z rb xv h0 n0) ({ frames := 0, cells := 0, slots := 0, locals := 0 } : Room).cells ({ frames := 0, cells := 0, slots := 0, locals := 0 } : Room).slots (s₁.setTop (entryFrame m #[(.ref rb), (.int xv)] 4))
  refine OGo.on pre0 ?_
  show OGo p e below s _ _ _ (s₁.setTop (mkF m 0 #[.val (.ref rb), .val (.int xv), .unset, .unset] []))
  refine OGo.on (fun t k => XS.iconst X0.here hx rfl (hb hby d5_0) k) ?_
  refine OGo.on (fun t k => XS.istoreN X0.here hx rfl (hb hby d5_1) rfl (l' := #[.val (.ref rb), .val (.int xv), .val (.int (0 : Int32)), .unset]) rfl k) ?_
  refine OGo.on (fun t k => XS.aloadN X0.here hx rfl (hb hby d5_2) rfl rfl k) ?_
  show OGo p e below s _ _ _ (s₁.setTop (mkF m 3 #[.val (.ref rb), .val (.int xv), .val (.int (0 : Int32)), .unset] [(.ref rb)]))
  refine OGo.on (fun t k => OAL.len X0 hx hZ e0 A0 rfl (hb hby d5_3) k) ?_
  show OGo p e below s _ _ _ (s₁.setTop (mkF m 4 #[.val (.ref rb), .val (.int xv), .val (.int (0 : Int32)), .unset] [(.int (6 : Int32))]))
  refine OGo.on (fun t k => XS.istoreN X0.here hx rfl (hb hby d5_4) rfl (l' := #[.val (.ref rb), .val (.int xv), .val (.int (0 : Int32)), .val (.int (6 : Int32))]) rfl k) ?_
  refine OGo.on (fun t k => XS.iloadN X0.here hx rfl (hb hby d5_5) rfl k) ?_
  refine OGo.on (fun t k => XS.iloadN X0.here hx rfl (hb hby d5_6) rfl k) ?_
  show OGo p e below s _ _ _ (s₁.setTop (mkF m 7 #[.val (.ref rb), .val (.int xv), .val (.int (0 : Int32)), .val (.int (6 : Int32))] [(.int (6 : Int32)), (.int (0 : Int32))]))
  refine OGo.on (fun t k => XS.icmpNo X0.here hx rfl (hb hby d5_7) rfl (tlt (by decide)).2.1 k) ?_
  show OGo p e below s _ _ _ (s₁.setTop (mkF m 10 #[.val (.ref rb), .val (.int xv), .val (.int (0 : Int32)), .val (.int (6 : Int32))] []))
  refine OGo.on (fun t k => XS.aloadN X0.here hx rfl (hb hby d5_10) rfl rfl k) ?_
  refine OGo.on (fun t k => XS.iloadN X0.here hx rfl (hb hby d5_11) rfl k) ?_
  refine OGo.on (fun t k => XS.iloadN X0.here hx rfl (hb hby d5_12) rfl k) ?_
  show OGo p e below s _ _ _ (s₁.setTop (mkF m 13 #[.val (.ref rb), .val (.int xv), .val (.int (0 : Int32)), .val (.int (6 : Int32))] [(.int xv), (.int (0 : Int32)), (.ref rb)]))
  obtain ⟨T757, h757, X757, e757, W757, A757, st757⟩ := OAL.stI X0 hx hZ e0 A0 (j := (0 : Int32)) (x := xv) (by decide) (by decide : 0 < 6) (Ls := #[.val (.ref rb), .val (.int xv), .val (.int (0 : Int32)), .val (.int (6 : Int32))]) (rest := []) (hb hby d5_13)
  have Z758 : n0 ≤ h757.size := Nat.le_trans Z0 (Nat.le_of_eq W757.size.symm)
  have N759 := Fr.snoc X757 N0 g_rb
  obtain ⟨Lh760, Xh760, Nh760⟩ := own_hide X757 N759
  have K761 : Keep h0 h757 [rb] := K0.wr W757 (Or.inl (List.mem_of_getElem? (i := 0) rfl))
  have V757 : OAL Z h757 rb .int [xv, (0 : Int32), (0 : Int32), (0 : Int32), (0 : Int32), (0 : Int32)] := A757
  refine OGo.on st757 ?_
  show OGo p e below s _ _ _ (T757.setTop (mkF m 14 #[.val (.ref rb), .val (.int xv), .val (.int (0 : Int32)), .val (.int (6 : Int32))] []))
  refine OGo.on (fun t k => XS.iinc Xh760.here hx rfl (hb hby d5_14) rfl (l' := #[.val (.ref rb), .val (.int xv), .val (.int (1 : Int32)), .val (.int (6 : Int32))]) rfl k) ?_
  refine OGo.on (fun t k => XS.goto Xh760.here hx rfl (pc0 := 17) (pc' := 5) rfl (hb hby d5_17) (by decide) (by decide) k) ?_
  refine OGo.on (fun t k => XS.iloadN Xh760.here hx rfl (hb hby d5_5) rfl k) ?_
  refine OGo.on (fun t k => XS.iloadN Xh760.here hx rfl (hb hby d5_6) rfl k) ?_
  show OGo p e below s _ _ _ (T757.setTop (mkF m 7 #[.val (.ref rb), .val (.int xv), .val (.int (1 : Int32)), .val (.int (6 : Int32))] [(.int (6 : Int32)), (.int (1 : Int32))]))
  refine OGo.on (fun t k => XS.icmpNo Xh760.here hx rfl (hb hby d5_7) rfl (tlt (by decide)).2.1 k) ?_
  show OGo p e below s _ _ _ (T757.setTop (mkF m 10 #[.val (.ref rb), .val (.int xv), .val (.int (1 : Int32)), .val (.int (6 : Int32))] []))
  refine OGo.on (fun t k => XS.aloadN Xh760.here hx rfl (hb hby d5_10) rfl rfl k) ?_
  refine OGo.on (fun t k => XS.iloadN Xh760.here hx rfl (hb hby d5_11) rfl k) ?_
  refine OGo.on (fun t k => XS.iloadN Xh760.here hx rfl (hb hby d5_12) rfl k) ?_
  show OGo p e below s _ _ _ (T757.setTop (mkF m 13 #[.val (.ref rb), .val (.int xv), .val (.int (1 : Int32)), .val (.int (6 : Int32))] [(.int xv), (.int (1 : Int32)), (.ref rb)]))
  obtain ⟨T762, h762, X762, e762, W762, A762, st762⟩ := OAL.stI Xh760 hx hZ e757 V757 (j := (1 : Int32)) (x := xv) (by decide) (by decide : 1 < 6) (Ls := #[.val (.ref rb), .val (.int xv), .val (.int (1 : Int32)), .val (.int (6 : Int32))]) (rest := []) (hb hby d5_13)
  have Z763 : n0 ≤ h762.size := Nat.le_trans Z758 (Nat.le_of_eq W762.size.symm)
  have N764 := Fr.snoc X762 Nh760 g_rb
  obtain ⟨Lh765, Xh765, Nh765⟩ := own_hide X762 N764
  have K766 : Keep h0 h762 [rb] := K761.wr W762 (Or.inl (List.mem_of_getElem? (i := 0) rfl))
  have V762 : OAL Z h762 rb .int [xv, xv, (0 : Int32), (0 : Int32), (0 : Int32), (0 : Int32)] := A762
  refine OGo.on st762 ?_
  show OGo p e below s _ _ _ (T762.setTop (mkF m 14 #[.val (.ref rb), .val (.int xv), .val (.int (1 : Int32)), .val (.int (6 : Int32))] []))
  refine OGo.on (fun t k => XS.iinc Xh765.here hx rfl (hb hby d5_14) rfl (l' := #[.val (.ref rb), .val (.int xv), .val (.int (2 : Int32)), .val (.int (6 : Int32))]) rfl k) ?_
  refine OGo.on (fun t k => XS.goto Xh765.here hx rfl (pc0 := 17) (pc' := 5) rfl (hb hby d5_17) (by decide) (by decide) k) ?_
  refine OGo.on (fun t k => XS.iloadN Xh765.here hx rfl (hb hby d5_5) rfl k) ?_
  refine OGo.on (fun t k => XS.iloadN Xh765.here hx rfl (hb hby d5_6) rfl k) ?_
  show OGo p e below s _ _ _ (T762.setTop (mkF m 7 #[.val (.ref rb), .val (.int xv), .val (.int (2 : Int32)), .val (.int (6 : Int32))] [(.int (6 : Int32)), (.int (2 : Int32))]))
  refine OGo.on (fun t k => XS.icmpNo Xh765.here hx rfl (hb hby d5_7) rfl (tlt (by decide)).2.1 k) ?_
  show OGo p e below s _ _ _ (T762.setTop (mkF m 10 #[.val (.ref rb), .val (.int xv), .val (.int (2 : Int32)), .val (.int (6 : Int32))] []))
  refine OGo.on (fun t k => XS.aloadN Xh765.here hx rfl (hb hby d5_10) rfl rfl k) ?_
  refine OGo.on (fun t k => XS.iloadN Xh765.here hx rfl (hb hby d5_11) rfl k) ?_
  refine OGo.on (fun t k => XS.iloadN Xh765.here hx rfl (hb hby d5_12) rfl k) ?_
  show OGo p e below s _ _ _ (T762.setTop (mkF m 13 #[.val (.ref rb), .val (.int xv), .val (.int (2 : Int32)), .val (.int (6 : Int32))] [(.int xv), (.int (2 : Int32)), (.ref rb)]))
  obtain ⟨T767, h767, X767, e767, W767, A767, st767⟩ := OAL.stI Xh765 hx hZ e762 V762 (j := (2 : Int32)) (x := xv) (by decide) (by decide : 2 < 6) (Ls := #[.val (.ref rb), .val (.int xv), .val (.int (2 : Int32)), .val (.int (6 : Int32))]) (rest := []) (hb hby d5_13)
  have Z768 : n0 ≤ h767.size := Nat.le_trans Z763 (Nat.le_of_eq W767.size.symm)
  have N769 := Fr.snoc X767 Nh765 g_rb
  obtain ⟨Lh770, Xh770, Nh770⟩ := own_hide X767 N769
  have K771 : Keep h0 h767 [rb] := K766.wr W767 (Or.inl (List.mem_of_getElem? (i := 0) rfl))
  have V767 : OAL Z h767 rb .int [xv, xv, xv, (0 : Int32), (0 : Int32), (0 : Int32)] := A767
  refine OGo.on st767 ?_
  show OGo p e below s _ _ _ (T767.setTop (mkF m 14 #[.val (.ref rb), .val (.int xv), .val (.int (2 : Int32)), .val (.int (6 : Int32))] []))
  refine OGo.on (fun t k => XS.iinc Xh770.here hx rfl (hb hby d5_14) rfl (l' := #[.val (.ref rb), .val (.int xv), .val (.int (3 : Int32)), .val (.int (6 : Int32))]) rfl k) ?_
  refine OGo.on (fun t k => XS.goto Xh770.here hx rfl (pc0 := 17) (pc' := 5) rfl (hb hby d5_17) (by decide) (by decide) k) ?_
  refine OGo.on (fun t k => XS.iloadN Xh770.here hx rfl (hb hby d5_5) rfl k) ?_
  refine OGo.on (fun t k => XS.iloadN Xh770.here hx rfl (hb hby d5_6) rfl k) ?_
  show OGo p e below s _ _ _ (T767.setTop (mkF m 7 #[.val (.ref rb), .val (.int xv), .val (.int (3 : Int32)), .val (.int (6 : Int32))] [(.int (6 : Int32)), (.int (3 : Int32))]))
  refine OGo.on (fun t k => XS.icmpNo Xh770.here hx rfl (hb hby d5_7) rfl (tlt (by decide)).2.1 k) ?_
  show OGo p e below s _ _ _ (T767.setTop (mkF m 10 #[.val (.ref rb), .val (.int xv), .val (.int (3 : Int32)), .val (.int (6 : Int32))] []))
  refine OGo.on (fun t k => XS.aloadN Xh770.here hx rfl (hb hby d5_10) rfl rfl k) ?_
  refine OGo.on (fun t k => XS.iloadN Xh770.here hx rfl (hb hby d5_11) rfl k) ?_
  refine OGo.on (fun t k => XS.iloadN Xh770.here hx rfl (hb hby d5_12) rfl k) ?_
  show OGo p e below s _ _ _ (T767.setTop (mkF m 13 #[.val (.ref rb), .val (.int xv), .val (.int (3 : Int32)), .val (.int (6 : Int32))] [(.int xv), (.int (3 : Int32)), (.ref rb)]))
  obtain ⟨T772, h772, X772, e772, W772, A772, st772⟩ := OAL.stI Xh770 hx hZ e767 V767 (j := (3 : Int32)) (x := xv) (by decide) (by decide : 3 < 6) (Ls := #[.val (.ref rb), .val (.int xv), .val (.int (3 : Int32)), .val (.int (6 : Int32))]) (rest := []) (hb hby d5_13)
  have Z773 : n0 ≤ h772.size := Nat.le_trans Z768 (Nat.le_of_eq W772.size.symm)
  have N774 := Fr.snoc X772 Nh770 g_rb
  obtain ⟨Lh775, Xh775, Nh775⟩ := own_hide X772 N774
  have K776 : Keep h0 h772 [rb] := K771.wr W772 (Or.inl (List.mem_of_getElem? (i := 0) rfl))
  have V772 : OAL Z h772 rb .int [xv, xv, xv, xv, (0 : Int32), (0 : Int32)] := A772
  refine OGo.on st772 ?_
  show OGo p e below s _ _ _ (T772.setTop (mkF m 14 #[.val (.ref rb), .val (.int xv), .val (.int (3 : Int32)), .val (.int (6 : Int32))] []))
  refine OGo.on (fun t k => XS.iinc Xh775.here hx rfl (hb hby d5_14) rfl (l' := #[.val (.ref rb), .val (.int xv), .val (.int (4 : Int32)), .val (.int (6 : Int32))]) rfl k) ?_
  refine OGo.on (fun t k => XS.goto Xh775.here hx rfl (pc0 := 17) (pc' := 5) rfl (hb hby d5_17) (by decide) (by decide) k) ?_
  refine OGo.on (fun t k => XS.iloadN Xh775.here hx rfl (hb hby d5_5) rfl k) ?_
  refine OGo.on (fun t k => XS.iloadN Xh775.here hx rfl (hb hby d5_6) rfl k) ?_
  show OGo p e below s _ _ _ (T772.setTop (mkF m 7 #[.val (.ref rb), .val (.int xv), .val (.int (4 : Int32)), .val (.int (6 : Int32))] [(.int (6 : Int32)), (.int (4 : Int32))]))
  refine OGo.on (fun t k => XS.icmpNo Xh775.here hx rfl (hb hby d5_7) rfl (tlt (by decide)).2.1 k) ?_
  show OGo p e below s _ _ _ (T772.setTop (mkF m 10 #[.val (.ref rb), .val (.int xv), .val (.int (4 : Int32)), .val (.int (6 : Int32))] []))
  refine OGo.on (fun t k => XS.aloadN Xh775.here hx rfl (hb hby d5_10) rfl rfl k) ?_
  refine OGo.on (fun t k => XS.iloadN Xh775.here hx rfl (hb hby d5_11) rfl k) ?_
  refine OGo.on (fun t k => XS.iloadN Xh775.here hx rfl (hb hby d5_12) rfl k) ?_
  show OGo p e below s _ _ _ (T772.setTop (mkF m 13 #[.val (.ref rb), .val (.int xv), .val (.int (4 : Int32)), .val (.int (6 : Int32))] [(.int xv), (.int (4 : Int32)), (.ref rb)]))
  obtain ⟨T777, h777, X777, e777, W777, A777, st777⟩ := OAL.stI Xh775 hx hZ e772 V772 (j := (4 : Int32)) (x := xv) (by decide) (by decide : 4 < 6) (Ls := #[.val (.ref rb), .val (.int xv), .val (.int (4 : Int32)), .val (.int (6 : Int32))]) (rest := []) (hb hby d5_13)
  have Z778 : n0 ≤ h777.size := Nat.le_trans Z773 (Nat.le_of_eq W777.size.symm)
  have N779 := Fr.snoc X777 Nh775 g_rb
  obtain ⟨Lh780, Xh780, Nh780⟩ := own_hide X777 N779
  have K781 : Keep h0 h777 [rb] := K776.wr W777 (Or.inl (List.mem_of_getElem? (i := 0) rfl))
  have V777 : OAL Z h777 rb .int [xv, xv, xv, xv, xv, (0 : Int32)] := A777
  refine OGo.on st777 ?_
  show OGo p e below s _ _ _ (T777.setTop (mkF m 14 #[.val (.ref rb), .val (.int xv), .val (.int (4 : Int32)), .val (.int (6 : Int32))] []))
  refine OGo.on (fun t k => XS.iinc Xh780.here hx rfl (hb hby d5_14) rfl (l' := #[.val (.ref rb), .val (.int xv), .val (.int (5 : Int32)), .val (.int (6 : Int32))]) rfl k) ?_
  refine OGo.on (fun t k => XS.goto Xh780.here hx rfl (pc0 := 17) (pc' := 5) rfl (hb hby d5_17) (by decide) (by decide) k) ?_
  refine OGo.on (fun t k => XS.iloadN Xh780.here hx rfl (hb hby d5_5) rfl k) ?_
  refine OGo.on (fun t k => XS.iloadN Xh780.here hx rfl (hb hby d5_6) rfl k) ?_
  show OGo p e below s _ _ _ (T777.setTop (mkF m 7 #[.val (.ref rb), .val (.int xv), .val (.int (5 : Int32)), .val (.int (6 : Int32))] [(.int (6 : Int32)), (.int (5 : Int32))]))
  refine OGo.on (fun t k => XS.icmpNo Xh780.here hx rfl (hb hby d5_7) rfl (tlt (by decide)).2.1 k) ?_
  show OGo p e below s _ _ _ (T777.setTop (mkF m 10 #[.val (.ref rb), .val (.int xv), .val (.int (5 : Int32)), .val (.int (6 : Int32))] []))
  refine OGo.on (fun t k => XS.aloadN Xh780.here hx rfl (hb hby d5_10) rfl rfl k) ?_
  refine OGo.on (fun t k => XS.iloadN Xh780.here hx rfl (hb hby d5_11) rfl k) ?_
  refine OGo.on (fun t k => XS.iloadN Xh780.here hx rfl (hb hby d5_12) rfl k) ?_
  show OGo p e below s _ _ _ (T777.setTop (mkF m 13 #[.val (.ref rb), .val (.int xv), .val (.int (5 : Int32)), .val (.int (6 : Int32))] [(.int xv), (.int (5 : Int32)), (.ref rb)]))
  obtain ⟨T782, h782, X782, e782, W782, A782, st782⟩ := OAL.stI Xh780 hx hZ e777 V777 (j := (5 : Int32)) (x := xv) (by decide) (by decide : 5 < 6) (Ls := #[.val (.ref rb), .val (.int xv), .val (.int (5 : Int32)), .val (.int (6 : Int32))]) (rest := []) (hb hby d5_13)
  have Z783 : n0 ≤ h782.size := Nat.le_trans Z778 (Nat.le_of_eq W782.size.symm)
  have N784 := Fr.snoc X782 Nh780 g_rb
  obtain ⟨Lh785, Xh785, Nh785⟩ := own_hide X782 N784
  have K786 : Keep h0 h782 [rb] := K781.wr W782 (Or.inl (List.mem_of_getElem? (i := 0) rfl))
  have V782 : OAL Z h782 rb .int [xv, xv, xv, xv, xv, xv] := A782
  refine OGo.on st782 ?_
  show OGo p e below s _ _ _ (T782.setTop (mkF m 14 #[.val (.ref rb), .val (.int xv), .val (.int (5 : Int32)), .val (.int (6 : Int32))] []))
  refine OGo.on (fun t k => XS.iinc Xh785.here hx rfl (hb hby d5_14) rfl (l' := #[.val (.ref rb), .val (.int xv), .val (.int (6 : Int32)), .val (.int (6 : Int32))]) rfl k) ?_
  refine OGo.on (fun t k => XS.goto Xh785.here hx rfl (pc0 := 17) (pc' := 5) rfl (hb hby d5_17) (by decide) (by decide) k) ?_
  refine OGo.on (fun t k => XS.iloadN Xh785.here hx rfl (hb hby d5_5) rfl k) ?_
  refine OGo.on (fun t k => XS.iloadN Xh785.here hx rfl (hb hby d5_6) rfl k) ?_
  show OGo p e below s _ _ _ (T782.setTop (mkF m 7 #[.val (.ref rb), .val (.int xv), .val (.int (6 : Int32)), .val (.int (6 : Int32))] [(.int (6 : Int32)), (.int (6 : Int32))]))
  refine OGo.on (fun t k => XS.icmpYes Xh785.here hx rfl (pc0 := 7) (pc' := 20) rfl (hb hby d5_7) rfl (flt (by decide)).2.1 (by decide) (by decide) k) ?_
  show OGo p e below s _ _ _ (T782.setTop (mkF m 20 #[.val (.ref rb), .val (.int xv), .val (.int (6 : Int32)), .val (.int (6 : Int32))] []))
  exact OGo.ret0 Xh785 hx hret hlk (hb hby d5_20) ⟨rfl, Nh785, by rw [e782]; exact K786, by rw [e782]; exact V782⟩ (by decide) (by decide)
def Q_own_mfilled (Z : State)  (h0 : Heap) (n0 : Nat) (v : Option Value) (h : Heap) (L : List Loc) : Prop := ∃ rb, v = some (.ref rb) ∧ Fr n0 L ∧ Keep h0 h [] ∧ n0 ≤ rb ∧ h0.size ≤ rb ∧ OAL Z h rb .int [(1 : Int32), (1 : Int32), (1 : Int32), (1 : Int32), (1 : Int32), (1 : Int32)]
theorem own_pd2 : parseMethodDescriptor "([II)V" = some ⟨[(.array .int), .int], none⟩ := by decide +kernel
theorem ef_own_mfilled (m : MethodId) (x0 : Int32) (x1 : Int32) : entryFrame m #[(.int x0), (.int x1)] 3 = mkF m 0 #[.val (.int x0), .val (.int x1), .unset] [] := by first | (simp [entryFrame, mkF, argsToLocals, Value.category]; done) | rfl
theorem d4_0 : decode prog_67_method_4_code 0 = .ok (.iload_n 0, 1) := by decide +kernel
theorem d4_1 : decode prog_67_method_4_code 1 = .ok (.newarray .int, 2) := by decide +kernel
theorem d4_3 : decode prog_67_method_4_code 3 = .ok (.astore_n 2, 1) := by decide +kernel
theorem d4_4 : decode prog_67_method_4_code 4 = .ok (.aload_n 2, 1) := by decide +kernel
theorem d4_5 : decode prog_67_method_4_code 5 = .ok (.iload_n 1, 1) := by decide +kernel
theorem d4_6 : decode prog_67_method_4_code 6 = .ok (.invokestatic 33, 3) := by decide +kernel
theorem d4_9 : decode prog_67_method_4_code 9 = .ok (.aload_n 2, 1) := by decide +kernel
theorem d4_10 : decode prog_67_method_4_code 10 = .ok (.areturn, 1) := by decide +kernel
set_option maxRecDepth 65536 in
set_option maxHeartbeats 40000000 in
theorem own_mfilled (l : Launch) (Z : State) (a0 : Array Value) (hw : ∀ d ∈ tables_1, d.before a0 Z = true) (ws : List Jvm.Cond)  (h0 : Heap) (n0 : Nat) (Z0 : n0 ≤ h0.size)  :
    MetFree l (⟨"com/example/slotwright/slotwright/solver/Tables", "filled", "(II)[I"⟩ : MethodName) (head1 (Jvm.Cond.code (⟨"com/example/slotwright/slotwright/solver/Tables", "filled", "(II)[I"⟩ : MethodName) prog_67_method_4_code 3 (some (.array .int)) :: ws) ({ frames := 1, cells := 1, slots := 6, locals := 15 } : Room)) (fun a U => a = #[(.int (6 : Int32)), (.int (1 : Int32))] ∧ Z.Warmed39 U.vm ∧ U.heap = h0) (fun _ _ _ _ _ => True) (fun _ U o U' => ∃ v L, o = .returned v ∧ (Q_own_mfilled Z  h0 n0) v U'.heap L ∧ FrameEnd U o U' L ({ frames := 1, cells := 1, slots := 6, locals := 15 } : Room).cells ({ frames := 1, cells := 1, slots := 6, locals := 15 } : Room).slots) := by
  refine MetFree.of_bodySF (plainFor_of_name own_pn1) hisR ?_
  intro p e s m args below meth c s₁ Bd hml0 hP hK
  obtain ⟨rfl, hZ, hh⟩ := hP
  have hx := Bd.exec
  have hby := Bd.bytes
  have hret := Bd.returns
  have hlk : meth.locks = false := Bd.notSynchronized
  have hml : c.maxLocals = 3 := hml0
  have hown : s.vm.findClass "com/example/slotwright/slotwright/solver/Tables" = some m.cls := findClass_of_methodNamed Bd.named
  have hnm := (name_of_methodNamed Bd.named Bd.method).1
  have X0 : Stand p l e ({ frames := 1, cells := 1, slots := 6, locals := 15 } : Room) s m #[(.int (6 : Int32)), (.int (1 : Int32))] below meth c s₁ [] 0 0 := Stand.of_body Bd
  have e0 : s₁.heap = h0 := by rw [← hh, Bd.state]; rfl
  have N0 := Fr.nil n0
  have pre0 : ∀ t, Steps p.tables e below (s₁.setTop (mkF m 0 #[.val (.int (6 : Int32)), .val (.int (1 : Int32)), .unset] [])) t → Steps p.tables e below (s₁.setTop (entryFrame m #[(.int (6 : Int32)), (.int (1 : Int32))] 3)) t := fun t k => castTop (ef_own_mfilled m (6 : Int32) (1 : Int32)) k
  have K0 : Keep h0 h0 [] := Keep.refl _ _
  show OGo p e below s (Q_own_mfilled Z  h0 n0) ({ frames := 1, cells := 1, slots := 6, locals := 15 } : Room).cells ({ frames := 1, cells := 1, slots := 6, locals := 15 } : Room).slots (s₁.setTop (entryFrame m #[(.int (6 : Int32)), (.int (1 : Int32))] 3))
  refine OGo.on pre0 ?_
  show OGo p e below s _ _ _ (s₁.setTop (mkF m 0 #[.val (.int (6 : Int32)), .val (.int (1 : Int32)), .unset] []))
  refine OGo.on (fun t k => XS.iloadN X0.here hx rfl (hb hby d4_0) rfl k) ?_
  show OGo p e below s _ _ _ (s₁.setTop (mkF m 1 #[.val (.int (6 : Int32)), .val (.int (1 : Int32)), .unset] [(.int (6 : Int32))]))
  obtain ⟨T787, h787, k787, X787, e787, E787, A787, st787⟩ := newP X0 hx hZ (hw _ (List.mem_of_getElem? (i := 11) rfl)) e0 (g := (mkF m 1 #[.val (.int (6 : Int32)), .val (.int (1 : Int32)), .unset] [(.int (6 : Int32))])) rfl (hb hby d4_1) rfl (by decide) (cap := 6) (by decide) (by decide) (by decide) (by decide)
  obtain ⟨b787, g787⟩ : ∃ z, z = h0.size := ⟨_, rfl⟩
  rw [← g787] at A787 st787
  have ge788 : n0 ≤ b787 := Nat.le_trans Z0 (Nat.le_of_eq g787.symm)
  have sz789 : h0.size ≤ b787 := Nat.le_trans K0.1 (Nat.le_of_eq g787.symm)
  have Z790 : n0 ≤ h787.size := Nat.le_trans Z0 E787.1
  have K791 : Keep h0 h787 [] := K0.ext E787
  have V787 : OAL Z h787 b787 .int [(0 : Int32), (0 : Int32), (0 : Int32), (0 : Int32), (0 : Int32), (0 : Int32)] := OAL.new A787 rfl
  refine OGo.on st787 ?_
  show OGo p e below s _ _ _ (T787.setTop (mkF m 3 #[.val (.int (6 : Int32)), .val (.int (1 : Int32)), .unset] [(.ref b787)]))
  refine OGo.on (fun t k => XS.astoreN X787.here hx rfl (hb hby d4_3) rfl rfl (l' := #[.val (.int (6 : Int32)), .val (.int (1 : Int32)), .val (.ref b787)]) rfl k) ?_
  refine OGo.on (fun t k => XS.aloadN X787.here hx rfl (hb hby d4_4) rfl rfl k) ?_
  refine OGo.on (fun t k => XS.iloadN X787.here hx rfl (hb hby d4_5) rfl k) ?_
  show OGo p e below s _ _ _ (T787.setTop (mkF m 6 #[.val (.int (6 : Int32)), .val (.int (1 : Int32)), .val (.ref b787)] [(.int (1 : Int32)), (.ref b787)]))
  obtain ⟨_, _, ⟨T792, L792, k792, n792⟩, -, X792, ⟨Lc792, hQ792, l792, y792, z792⟩, st792⟩ := Jvm.LawKit.callS X787 hx (y := (⟨"java/util/Arrays", "fill", "([II)V"⟩ : MethodName)) hown (mvT hZ (hw _ (List.mem_of_getElem? (i := 28) rfl))) (mvT hZ (hw _ (List.mem_of_getElem? (i := 29) rfl))) (mvT hZ (hw _ (List.mem_of_getElem? (i := 30) rfl))) (mvT hZ (hw _ (List.mem_of_getElem? (i := 31) rfl))) (by decide) (backOf (W := 0) (own_mfill l Z a0 hw [] b787 (1 : Int32) h787 n0 Z790 ge788 V787) hZ (hw _ (List.mem_of_getElem? (i := 31) rfl)) (hw _ (List.mem_of_getElem? (i := 30) rfl)) (by decide) (by decide)) (g := (mkF m 6 #[.val (.int (6 : Int32)), .val (.int (1 : Int32)), .val (.ref b787)] [(.int (1 : Int32)), (.ref b787)])) rfl (by rw [hml]; rfl) (argsL := [(.ref b787), (.int (1 : Int32))]) (rest := []) (lenOf own_pd2 rfl) rfl (by show 2 * 0 + _ ≤ _; exact Nat.le_of_eq rfl) (hb hby d4_6) (fun _ _ => ⟨rfl, e787, (by decide : 1 + 0 ≤ _), (by decide : 6 + 0 ≤ _)⟩)
  dsimp only [Pt.U, Pt.locs, Pt.cells, Pt.slots] at X792 l792 y792 z792 st792 hQ792
  subst l792 y792 z792
  obtain ⟨rfl, N792q, K792, A792⟩ := hQ792
  have N792 := Fr.app N0 N792q
  have Z793 : n0 ≤ T792.heap.size := Nat.le_trans Z790 K792.1
  have eh792 : T792.heap = T792.heap := rfl
  have K794 : Keep h0 T792.heap [] := K791.trans K792 (fun x q => by cases List.mem_singleton.mp q; exact Or.inr sz789)
  obtain ⟨Lh795, Xh795, Nh795⟩ := own_hide X792 N792
  refine OGo.on st792 ?_
  show OGo p e below s _ _ _ (T792.setTop (mkF m 9 #[.val (.int (6 : Int32)), .val (.int (1 : Int32)), .val (.ref b787)] []))
  refine OGo.on (fun t k => XS.aloadN Xh795.here hx rfl (hb hby d4_9) rfl rfl k) ?_
  show OGo p e below s _ _ _ (T792.setTop (mkF m 10 #[.val (.int (6 : Int32)), .val (.int (1 : Int32)), .val (.ref b787)] [(.ref b787)]))
  exact OGo.retA Xh795 hx hret rfl rfl hlk (hb hby d4_10) ⟨_, rfl, Nh795, by rw [eh792]; exact K794, ge788, sz789, by rw [eh792]; exact A792⟩ (by decide) (by decide)
def Q_own_minit (Z : State) (ra rc : Addr) (Cl : List Int32) (h0 : Heap) (n0 : Nat) (v : Option Value) (h : Heap) (L : List Loc) : Prop := v = none ∧ Fr n0 L ∧ n0 ≤ h.size ∧ ∃ rm rw rl rk, OAD n0 ra rm rw rc rl rk ∧ OCC Z h ra rm rw rc rl rk [(0 : Int32), (0 : Int32), (0 : Int32), (0 : Int32), (0 : Int32), (0 : Int32)] [(1 : Int32), (1 : Int32), (1 : Int32), (1 : Int32), (1 : Int32), (1 : Int32)] Cl [(0 : Int32), (0 : Int32), (0 : Int32), (0 : Int32), (0 : Int32), (0 : Int32)] [(0 : Int32), (0 : Int32), (0 : Int32), (0 : Int32), (0 : Int32), (0 : Int32), (0 : Int32), (0 : Int32), (0 : Int32), (0 : Int32), (0 : Int32), (0 : Int32), (0 : Int32), (0 : Int32), (0 : Int32), (0 : Int32)] 0
theorem own_pd3 : parseMethodDescriptor "()V" = some ⟨[], none⟩ := by decide +kernel
theorem own_pd4 : parseMethodDescriptor "(II)[I" = some ⟨[.int, .int], some (.array .int)⟩ := by decide +kernel
theorem ef_own_minit (m : MethodId) (x0 : Addr) (x1 : Int32) (x2 : Int32) (x3 : Addr) : entryFrame m #[(.ref x0), (.int x1), (.int x2), (.ref x3)] 4 = mkF m 0 #[.val (.ref x0), .val (.int x1), .val (.int x2), .val (.ref x3)] [] := by first | (simp [entryFrame, mkF, argsToLocals, Value.category]; done) | rfl
theorem d1_0 : decode prog_60_method_1_code 0 = .ok (.aload_n 0, 1) := by decide +kernel
theorem d1_1 : decode prog_60_method_1_code 1 = .ok (.invokespecial 1, 3) := by decide +kernel
theorem d1_4 : decode prog_60_method_1_code 4 = .ok (.aload_n 0, 1) := by decide +kernel
theorem d1_5 : decode prog_60_method_1_code 5 = .ok (.bipush 16, 2) := by decide +kernel
theorem d1_7 : decode prog_60_method_1_code 7 = .ok (.newarray .int, 2) := by decide +kernel
theorem d1_9 : decode prog_60_method_1_code 9 = .ok (.putfield 7, 3) := by decide +kernel
theorem d1_12 : decode prog_60_method_1_code 12 = .ok (.aload_n 0, 1) := by decide +kernel
theorem d1_13 : decode prog_60_method_1_code 13 = .ok (.iload_n 2, 1) := by decide +kernel
theorem d1_14 : decode prog_60_method_1_code 14 = .ok (.putfield 13, 3) := by decide +kernel
theorem d1_17 : decode prog_60_method_1_code 17 = .ok (.aload_n 0, 1) := by decide +kernel
theorem d1_18 : decode prog_60_method_1_code 18 = .ok (.iload_n 1, 1) := by decide +kernel
theorem d1_19 : decode prog_60_method_1_code 19 = .ok (.iload_n 2, 1) := by decide +kernel
theorem d1_20 : decode prog_60_method_1_code 20 = .ok (.invokestatic 17, 3) := by decide +kernel
theorem d1_23 : decode prog_60_method_1_code 23 = .ok (.newarray .int, 2) := by decide +kernel
theorem d1_25 : decode prog_60_method_1_code 25 = .ok (.putfield 23, 3) := by decide +kernel
theorem d1_28 : decode prog_60_method_1_code 28 = .ok (.aload_n 0, 1) := by decide +kernel
theorem d1_29 : decode prog_60_method_1_code 29 = .ok (.aload_n 3, 1) := by decide +kernel
theorem d1_30 : decode prog_60_method_1_code 30 = .ok (.putfield 26, 3) := by decide +kernel
theorem d1_33 : decode prog_60_method_1_code 33 = .ok (.aload_n 0, 1) := by decide +kernel
theorem d1_34 : decode prog_60_method_1_code 34 = .ok (.aload_n 0, 1) := by decide +kernel
theorem d1_35 : decode prog_60_method_1_code 35 = .ok (.getfield 23, 3) := by decide +kernel
theorem d1_38 : decode prog_60_method_1_code 38 = .ok (.arraylength, 1) := by decide +kernel
theorem d1_39 : decode prog_60_method_1_code 39 = .ok (.iconst 1, 1) := by decide +kernel
theorem d1_40 : decode prog_60_method_1_code 40 = .ok (.invokestatic 30, 3) := by decide +kernel
theorem d1_43 : decode prog_60_method_1_code 43 = .ok (.putfield 34, 3) := by decide +kernel
theorem d1_46 : decode prog_60_method_1_code 46 = .ok (.aload_n 0, 1) := by decide +kernel
theorem d1_47 : decode prog_60_method_1_code 47 = .ok (.aload_n 0, 1) := by decide +kernel
theorem d1_48 : decode prog_60_method_1_code 48 = .ok (.getfield 23, 3) := by decide +kernel
theorem d1_51 : decode prog_60_method_1_code 51 = .ok (.arraylength, 1) := by decide +kernel
theorem d1_52 : decode prog_60_method_1_code 52 = .ok (.newarray .boolean, 2) := by decide +kernel
theorem d1_54 : decode prog_60_method_1_code 54 = .ok (.putfield 37, 3) := by decide +kernel
theorem d1_57 : decode prog_60_method_1_code 57 = .ok (.return_, 1) := by decide +kernel
set_option maxRecDepth 65536 in
set_option maxHeartbeats 40000000 in
theorem own_minit (l : Launch) (Z : State) (a0 : Array Value) (hw : ∀ d ∈ tables_1, d.before a0 Z = true) (ws : List Jvm.Cond) (ra rc : Addr) (Cl : List Int32) (h0 : Heap) (n0 : Nat) (Z0 : n0 ≤ h0.size) (g_ra : n0 ≤ ra) (hac : ra ≠ rc) (A_rc : OAL Z h0 rc .boolean Cl) (E_ra : Exa Z h0 ra "com/example/slotwright/slotwright/solver/Occupancy") (F_clashing_ra : Fld Z h0 ra "com/example/slotwright/slotwright/solver/Occupancy" "clashing" "[I" .null) (F_slots_ra : Fld Z h0 ra "com/example/slotwright/slotwright/solver/Occupancy" "slots" "I" (.int (0 : Int32))) (F_meetings_ra : Fld Z h0 ra "com/example/slotwright/slotwright/solver/Occupancy" "meetings" "[I" .null) (F_closed_ra : Fld Z h0 ra "com/example/slotwright/slotwright/solver/Occupancy" "closed" "[Z" .null) (F_weights_ra : Fld Z h0 ra "com/example/slotwright/slotwright/solver/Occupancy" "weights" "[I" .null) (F_listed_ra : Fld Z h0 ra "com/example/slotwright/slotwright/solver/Occupancy" "listed" "[Z" .null) (F_clashingCount_ra : Fld Z h0 ra "com/example/slotwright/slotwright/solver/Occupancy" "clashingCount" "I" (.int (0 : Int32))) (F_weighted_ra : Fld Z h0 ra "com/example/slotwright/slotwright/solver/Occupancy" "weighted" "J" (.long (0 : Int64)))  :
    MetFree l (⟨"com/example/slotwright/slotwright/solver/Occupancy", "<init>", "(II[Z)V"⟩ : MethodName) (head1 (Jvm.Cond.code (⟨"com/example/slotwright/slotwright/solver/Occupancy", "<init>", "(II[Z)V"⟩ : MethodName) prog_60_method_1_code 4 none :: ws) ({ frames := 2, cells := 4, slots := 34, locals := 30 } : Room)) (fun a U => a = #[(.ref ra), (.int (2 : Int32)), (.int (3 : Int32)), (.ref rc)] ∧ Z.Warmed39 U.vm ∧ U.heap = h0) (fun _ _ _ _ _ => True) (fun _ U o U' => ∃ v L, o = .returned v ∧ (Q_own_minit Z ra rc Cl h0 n0) v U'.heap L ∧ FrameEnd U o U' L ({ frames := 2, cells := 4, slots := 34, locals := 30 } : Room).cells ({ frames := 2, cells := 4, slots := 34, locals := 30 } : Room).slots) := by
  refine MetFree.of_bodySF (plainFor_of_name own_pn0) hisR ?_
  intro p e s m args below meth c s₁ Bd hml0 hP hK
  obtain ⟨rfl, hZ, hh⟩ := hP
  have hx := Bd.exec
  have hby := Bd.bytes
  have hret := Bd.returns
  have hlk : meth.locks = false := Bd.notSynchronized
  have hml : c.maxLocals = 4 := hml0
  have hown : s.vm.findClass "com/example/slotwright/slotwright/solver/Occupancy" = some m.cls := findClass_of_methodNamed Bd.named
  have hnm := (name_of_methodNamed Bd.named Bd.method).1
  have X0 : Stand p l e ({ frames := 2, cells := 4, slots := 34, locals := 30 } : Room) s m #[(.ref ra), (.int (2 : Int32)), (.int (3 : Int32)), (.ref rc)] below meth c s₁ [] 0 0 := Stand.of_body Bd
  have e0 : s₁.heap = h0 := by rw [← hh, Bd.state]; rfl
  have N0 := Fr.nil n0
  have pre0 : ∀ t, Steps p.tables e below (s₁.setTop (mkF m 0 #[.val (.ref ra), .val (.int (2 : Int32)), .val (.int (3 : Int32)), .val (.ref rc)] [])) t → Steps p.tables e below (s₁.setTop (entryFrame m #[(.ref ra), (.int (2 : Int32)), (.int (3 : Int32)), (.ref rc)] 4)) t := fun t k => castTop (ef_own_minit m ra (2 : Int32) (3 : Int32) rc) k
  show OGo p e below s (Q_own_minit Z ra rc Cl h0 n0) ({ frames := 2, cells := 4, slots := 34, locals := 30 } : Room).cells ({ frames := 2, cells := 4, slots := 34, locals := 30 } : Room).slots (s₁.setTop (entryFrame m #[(.ref ra), (.int (2 : Int32)), (.int (3 : Int32)), (.ref rc)] 4))
  refine OGo.on pre0 ?_
  show OGo p e below s _ _ _ (s₁.setTop (mkF m 0 #[.val (.ref ra), .val (.int (2 : Int32)), .val (.int (3 : Int32)), .val (.ref rc)] []))
  refine OGo.on (fun t k => XS.aloadN X0.here hx rfl (hb hby d1_0) rfl rfl k) ?_
  show OGo p e below s _ _ _ (s₁.setTop (mkF m 1 #[.val (.ref ra), .val (.int (2 : Int32)), .val (.int (3 : Int32)), .val (.ref rc)] [(.ref ra)]))
  obtain ⟨T796, X796, e796, st796⟩ := initO X0 hx hZ hown (hw _ (List.mem_of_getElem? (i := 8) rfl)) (hw _ (List.mem_of_getElem? (i := 9) rfl)) (hw _ (List.mem_of_getElem? (i := 10) rfl)) e0 (g := (mkF m 1 #[.val (.ref ra), .val (.int (2 : Int32)), .val (.int (3 : Int32)), .val (.ref rc)] [(.ref ra)])) rfl (by rw [hml]; rfl) rfl (hb hby d1_1) (by decide) (W := 0) (by show 2 * 0 + _ ≤ _; exact Nat.le_of_eq rfl) (by decide)
  refine OGo.on st796 ?_
  show OGo p e below s _ _ _ (T796.setTop (mkF m 4 #[.val (.ref ra), .val (.int (2 : Int32)), .val (.int (3 : Int32)), .val (.ref rc)] []))
  refine OGo.on (fun t k => XS.aloadN X796.here hx rfl (hb hby d1_4) rfl rfl k) ?_
  refine OGo.on (fun t k => XS.bipush X796.here hx rfl (hb hby d1_5) k) ?_
  show OGo p e below s _ _ _ (T796.setTop (mkF m 7 #[.val (.ref ra), .val (.int (2 : Int32)), .val (.int (3 : Int32)), .val (.ref rc)] [(.int (16 : Int32)), (.ref ra)]))
  obtain ⟨T797, h797, k797, X797, e797, E797, A797, st797⟩ := newP X796 hx hZ (hw _ (List.mem_of_getElem? (i := 11) rfl)) e796 (g := (mkF m 7 #[.val (.ref ra), .val (.int (2 : Int32)), .val (.int (3 : Int32)), .val (.ref rc)] [(.int (16 : Int32)), (.ref ra)])) rfl (hb hby d1_7) rfl (by decide) (cap := 16) (by decide) (by decide) (by decide) (by decide)
  obtain ⟨b797, g797⟩ : ∃ z, z = h0.size := ⟨_, rfl⟩
  rw [← g797] at A797 st797
  have ne798 : ra ≠ b797 := Nat.ne_of_lt (Nat.lt_of_lt_of_le E_ra.lt (Nat.le_of_eq g797.symm))
  have ne799 : rc ≠ b797 := Nat.ne_of_lt (Nat.lt_of_lt_of_le A_rc.lt (Nat.le_of_eq g797.symm))
  have ge800 : n0 ≤ b797 := Nat.le_trans Z0 (Nat.le_of_eq g797.symm)
  have f801 : Exa Z h797 ra "com/example/slotwright/slotwright/solver/Occupancy" := E_ra.ext E797
  have f802 : Fld Z h797 ra "com/example/slotwright/slotwright/solver/Occupancy" "clashing" "[I" .null := F_clashing_ra.ext E797
  have f803 : Fld Z h797 ra "com/example/slotwright/slotwright/solver/Occupancy" "slots" "I" (.int (0 : Int32)) := F_slots_ra.ext E797
  have f804 : Fld Z h797 ra "com/example/slotwright/slotwright/solver/Occupancy" "meetings" "[I" .null := F_meetings_ra.ext E797
  have f805 : Fld Z h797 ra "com/example/slotwright/slotwright/solver/Occupancy" "closed" "[Z" .null := F_closed_ra.ext E797
  have f806 : Fld Z h797 ra "com/example/slotwright/slotwright/solver/Occupancy" "weights" "[I" .null := F_weights_ra.ext E797
  have f807 : Fld Z h797 ra "com/example/slotwright/slotwright/solver/Occupancy" "listed" "[Z" .null := F_listed_ra.ext E797
  have f808 : Fld Z h797 ra "com/example/slotwright/slotwright/solver/Occupancy" "clashingCount" "I" (.int (0 : Int32)) := F_clashingCount_ra.ext E797
  have f809 : Fld Z h797 ra "com/example/slotwright/slotwright/solver/Occupancy" "weighted" "J" (.long (0 : Int64)) := F_weighted_ra.ext E797
  have f810 : OAL Z h797 rc .boolean Cl := A_rc.ext E797
  have Z811 : n0 ≤ h797.size := Nat.le_trans Z0 E797.1
  have V797 : OAL Z h797 b797 .int [(0 : Int32), (0 : Int32), (0 : Int32), (0 : Int32), (0 : Int32), (0 : Int32), (0 : Int32), (0 : Int32), (0 : Int32), (0 : Int32), (0 : Int32), (0 : Int32), (0 : Int32), (0 : Int32), (0 : Int32), (0 : Int32)] := OAL.new A797 rfl
  refine OGo.on st797 ?_
  show OGo p e below s _ _ _ (T797.setTop (mkF m 9 #[.val (.ref ra), .val (.int (2 : Int32)), .val (.int (3 : Int32)), .val (.ref rc)] [(.ref b797), (.ref ra)]))
  obtain ⟨T812, h812, X812, e812, W812, st812⟩ := putF X797 hx hZ hown (host := "") (Or.inl (hw _ (List.mem_of_getElem? (i := 12) rfl))) Via.refl e797 f802 f801 (Or.inl (hw _ (List.mem_of_getElem? (i := 13) rfl))) (hw _ (List.mem_of_getElem? (i := 3) rfl)) (ty := (.array .int)) (by decide) rfl rfl (g := (mkF m 9 #[.val (.ref ra), .val (.int (2 : Int32)), .val (.int (3 : Int32)), .val (.ref rc)] [(.ref b797), (.ref ra)])) rfl rfl (hb hby d1_9)
  have f813 : Exa Z h812 ra "com/example/slotwright/slotwright/solver/Occupancy" := f801.wr W812
  have f814 : Fld Z h812 ra "com/example/slotwright/slotwright/solver/Occupancy" "slots" "I" (.int (0 : Int32)) := f803.other W812 (Or.inr (slot_ne (Or.inr (hw _ (List.mem_of_getElem? (i := 15) rfl))) (Or.inl (hw _ (List.mem_of_getElem? (i := 13) rfl))) (by decide) (t := .int) (t' := (.array .int)) (by decide) (by decide)))
  have f815 : Fld Z h812 ra "com/example/slotwright/slotwright/solver/Occupancy" "meetings" "[I" .null := f804.other W812 (Or.inr (slot_ne (Or.inr (hw _ (List.mem_of_getElem? (i := 22) rfl))) (Or.inl (hw _ (List.mem_of_getElem? (i := 13) rfl))) (by decide) (t := (.array .int)) (t' := (.array .int)) (by decide) (by decide)))
  have f816 : Fld Z h812 ra "com/example/slotwright/slotwright/solver/Occupancy" "closed" "[Z" .null := f805.other W812 (Or.inr (slot_ne (Or.inr (hw _ (List.mem_of_getElem? (i := 24) rfl))) (Or.inl (hw _ (List.mem_of_getElem? (i := 13) rfl))) (by decide) (t := (.array .boolean)) (t' := (.array .int)) (by decide) (by decide)))
  have f817 : Fld Z h812 ra "com/example/slotwright/slotwright/solver/Occupancy" "weights" "[I" .null := f806.other W812 (Or.inr (slot_ne (Or.inr (hw _ (List.mem_of_getElem? (i := 33) rfl))) (Or.inl (hw _ (List.mem_of_getElem? (i := 13) rfl))) (by decide) (t := (.array .int)) (t' := (.array .int)) (by decide) (by decide)))
  have f818 : Fld Z h812 ra "com/example/slotwright/slotwright/solver/Occupancy" "listed" "[Z" .null := f807.other W812 (Or.inr (slot_ne (Or.inr (hw _ (List.mem_of_getElem? (i := 35) rfl))) (Or.inl (hw _ (List.mem_of_getElem? (i := 13) rfl))) (by decide) (t := (.array .boolean)) (t' := (.array .int)) (by decide) (by decide)))
  have f819 : Fld Z h812 ra "com/example/slotwright/slotwright/solver/Occupancy" "clashingCount" "I" (.int (0 : Int32)) := f808.other W812 (Or.inr (slot_ne (Or.inl (hw _ (List.mem_of_getElem? (i := 49) rfl))) (Or.inl (hw _ (List.mem_of_getElem? (i := 13) rfl))) (by decide) (t := .int) (t' := (.array .int)) (by decide) (by decide)))
  have f820 : Fld Z h812 ra "com/example/slotwright/slotwright/solver/Occupancy" "weighted" "J" (.long (0 : Int64)) := f809.other W812 (Or.inr (slot_ne (Or.inl (hw _ (List.mem_of_getElem? (i := 47) rfl))) (Or.inl (hw _ (List.mem_of_getElem? (i := 13) rfl))) (by decide) (t := .long) (t' := (.array .int)) (by decide) (by decide)))
  have f821 : OAL Z h812 rc .boolean Cl := f810.other W812 (Ne.symm hac)
  have f822 : OAL Z h812 b797 .int [(0 : Int32), (0 : Int32), (0 : Int32), (0 : Int32), (0 : Int32), (0 : Int32), (0 : Int32), (0 : Int32), (0 : Int32), (0 : Int32), (0 : Int32), (0 : Int32), (0 : Int32), (0 : Int32), (0 : Int32), (0 : Int32)] := V797.other W812 (Ne.symm ne798)
  have Z823 : n0 ≤ h812.size := Nat.le_trans Z811 (Nat.le_of_eq W812.size.symm)
  have N824 := Fr.snoc X812 N0 g_ra
  obtain ⟨Lh825, Xh825, Nh825⟩ := own_hide X812 N824
  have f826 : Fld Z h812 ra "com/example/slotwright/slotwright/solver/Occupancy" "clashing" "[I" (.ref b797) := f802.same W812
  refine OGo.on st812 ?_
  show OGo p e below s _ _ _ (T812.setTop (mkF m 12 #[.val (.ref ra), .val (.int (2 : Int32)), .val (.int (3 : Int32)), .val (.ref rc)] []))
  refine OGo.on (fun t k => XS.aloadN Xh825.here hx rfl (hb hby d1_12) rfl rfl k) ?_
  refine OGo.on (fun t k => XS.iloadN Xh825.here hx rfl (hb hby d1_13) rfl k) ?_
  show OGo p e below s _ _ _ (T812.setTop (mkF m 14 #[.val (.ref ra), .val (.int (2 : Int32)), .val (.int (3 : Int32)), .val (.ref rc)] [(.int (3 : Int32)), (.ref ra)]))
  obtain ⟨T827, h827, X827, e827, W827, st827⟩ := putF Xh825 hx hZ hown (host := "") (Or.inl (hw _ (List.mem_of_getElem? (i := 14) rfl))) Via.refl e812 f814 f813 (Or.inr ⟨(hw _ (List.mem_of_getElem? (i := 15) rfl)), rfl, hnm⟩) (hw _ (List.mem_of_getElem? (i := 3) rfl)) (ty := .int) (by decide) rfl rfl (g := (mkF m 14 #[.val (.ref ra), .val (.int (2 : Int32)), .val (.int (3 : Int32)), .val (.ref rc)] [(.int (3 : Int32)), (.ref ra)])) rfl rfl (hb hby d1_14)
  have f828 : Exa Z h827 ra "com/example/slotwright/slotwright/solver/Occupancy" := f813.wr W827
  have f829 : Fld Z h827 ra "com/example/slotwright/slotwright/solver/Occupancy" "clashing" "[I" (.ref b797) := f826.other W827 (Or.inr (slot_ne (Or.inl (hw _ (List.mem_of_getElem? (i := 13) rfl))) (Or.inr (hw _ (List.mem_of_getElem? (i := 15) rfl))) (by decide) (t := (.array .int)) (t' := .int) (by decide) (by decide)))
  have f830 : Fld Z h827 ra "com/example/slotwright/slotwright/solver/Occupancy" "meetings" "[I" .null := f815.other W827 (Or.inr (slot_ne (Or.inr (hw _ (List.mem_of_getElem? (i := 22) rfl))) (Or.inr (hw _ (List.mem_of_getElem? (i := 15) rfl))) (by decide) (t := (.array .int)) (t' := .int) (by decide) (by decide)))
  have f831 : Fld Z h827 ra "com/example/slotwright/slotwright/solver/Occupancy" "closed" "[Z" .null := f816.other W827 (Or.inr (slot_ne (Or.inr (hw _ (List.mem_of_getElem? (i := 24) rfl))) (Or.inr (hw _ (List.mem_of_getElem? (i := 15) rfl))) (by decide) (t := (.array .boolean)) (t' := .int) (by decide) (by decide)))
  have f832 : Fld Z h827 ra "com/example/slotwright/slotwright/solver/Occupancy" "weights" "[I" .null := f817.other W827 (Or.inr (slot_ne (Or.inr (hw _ (List.mem_of_getElem? (i := 33) rfl))) (Or.inr (hw _ (List.mem_of_getElem? (i := 15) rfl))) (by decide) (t := (.array .int)) (t' := .int) (by decide) (by decide)))
  have f833 : Fld Z h827 ra "com/example/slotwright/slotwright/solver/Occupancy" "listed" "[Z" .null := f818.other W827 (Or.inr (slot_ne (Or.inr (hw _ (List.mem_of_getElem? (i := 35) rfl))) (Or.inr (hw _ (List.mem_of_getElem? (i := 15) rfl))) (by decide) (t := (.array .boolean)) (t' := .int) (by decide) (by decide)))
  have f834 : Fld Z h827 ra "com/example/slotwright/slotwright/solver/Occupancy" "clashingCount" "I" (.int (0 : Int32)) := f819.other W827 (Or.inr (slot_ne (Or.inl (hw _ (List.mem_of_getElem? (i := 49) rfl))) (Or.inr (hw _ (List.mem_of_getElem? (i := 15) rfl))) (by decide) (t := .int) (t' := .int) (by decide) (by decide)))
  have f835 : Fld Z h827 ra "com/example/slotwright/slotwright/solver/Occupancy" "weighted" "J" (.long (0 : Int64)) := f820.other W827 (Or.inr (slot_ne (Or.inl (hw _ (List.mem_of_getElem? (i := 47) rfl))) (Or.inr (hw _ (List.mem_of_getElem? (i := 15) rfl))) (by decide) (t := .long) (t' := .int) (by decide) (by decide)))
  have f836 : OAL Z h827 rc .boolean Cl := f821.other W827 (Ne.symm hac)
  have f837 : OAL Z h827 b797 .int [(0 : Int32), (0 : Int32), (0 : Int32), (0 : Int32), (0 : Int32), (0 : Int32), (0 : Int32), (0 : Int32), (0 : Int32), (0 : Int32), (0 : Int32), (0 : Int32), (0 : Int32), (0 : Int32), (0 : Int32), (0 : Int32)] := f822.other W827 (Ne.symm ne798)
  have Z838 : n0 ≤ h827.size := Nat.le_trans Z823 (Nat.le_of_eq W827.size.symm)
  have N839 := Fr.snoc X827 Nh825 g_ra
  obtain ⟨Lh840, Xh840, Nh840⟩ := own_hide X827 N839
  have f841 : Fld Z h827 ra "com/example/slotwright/slotwright/solver/Occupancy" "slots" "I" (.int (3 : Int32)) := f814.same W827
  refine OGo.on st827 ?_
  show OGo p e below s _ _ _ (T827.setTop (mkF m 17 #[.val (.ref ra), .val (.int (2 : Int32)), .val (.int (3 : Int32)), .val (.ref rc)] []))
  refine OGo.on (fun t k => XS.aloadN Xh840.here hx rfl (hb hby d1_17) rfl rfl k) ?_
  refine OGo.on (fun t k => XS.iloadN Xh840.here hx rfl (hb hby d1_18) rfl k) ?_
  refine OGo.on (fun t k => XS.iloadN Xh840.here hx rfl (hb hby d1_19) rfl k) ?_
  show OGo p e below s _ _ _ (T827.setTop (mkF m 20 #[.val (.ref ra), .val (.int (2 : Int32)), .val (.int (3 : Int32)), .val (.ref rc)] [(.int (3 : Int32)), (.int (2 : Int32)), (.ref ra)]))
  obtain ⟨_, _, ⟨T842, L842, k842, n842⟩, -, X842, ⟨Lc842, hQ842, l842, y842, z842⟩, st842⟩ := Jvm.LawKit.callS Xh840 hx (y := (⟨"com/example/slotwright/slotwright/solver/Tables", "cells", "(II)I"⟩ : MethodName)) hown (mvT hZ (hw _ (List.mem_of_getElem? (i := 16) rfl))) (mvT hZ (hw _ (List.mem_of_getElem? (i := 17) rfl))) (mvT hZ (hw _ (List.mem_of_getElem? (i := 18) rfl))) (mvT hZ (hw _ (List.mem_of_getElem? (i := 19) rfl))) (by decide) (backOf (W := 1) (own_mcells l Z a0 hw [] h827 n0 Z838) hZ (hw _ (List.mem_of_getElem? (i := 19) rfl)) (hw _ (List.mem_of_getElem? (i := 18) rfl)) (by decide) (by decide)) (g := (mkF m 20 #[.val (.ref ra), .val (.int (2 : Int32)), .val (.int (3 : Int32)), .val (.ref rc)] [(.int (3 : Int32)), (.int (2 : Int32)), (.ref ra)])) rfl (by rw [hml]; rfl) (argsL := [(.int (2 : Int32)), (.int (3 : Int32))]) (rest := [(.ref ra)]) (lenOf own_pd1 rfl) rfl (by show 2 * 0 + _ ≤ _; exact Nat.le_of_eq rfl) (hb hby d1_20) (fun _ _ => ⟨rfl, e827, (by decide : 1 + 0 ≤ _), (by decide : 16 + 0 ≤ _)⟩)
  dsimp only [Pt.U, Pt.locs, Pt.cells, Pt.slots] at X842 l842 y842 z842 st842 hQ842
  subst l842 y842 z842
  obtain ⟨rfl, N842q, e842⟩ := hQ842
  have N842 := Fr.app Nh840 N842q
  obtain ⟨Lh843, Xh843, Nh843⟩ := own_hide X842 N842
  refine OGo.on st842 ?_
  show OGo p e below s _ _ _ (T842.setTop (mkF m 23 #[.val (.ref ra), .val (.int (2 : Int32)), .val (.int (3 : Int32)), .val (.ref rc)] [(.int (6 : Int32)), (.ref ra)]))
  obtain ⟨T844, h844, k844, X844, e844, E844, A844, st844⟩ := newP Xh843 hx hZ (hw _ (List.mem_of_getElem? (i := 11) rfl)) e842 (g := (mkF m 23 #[.val (.ref ra), .val (.int (2 : Int32)), .val (.int (3 : Int32)), .val (.ref rc)] [(.int (6 : Int32)), (.ref ra)])) rfl (hb hby d1_23) rfl (by decide) (cap := 6) (by decide) (by decide) (by decide) (by decide)
  obtain ⟨b844, g844⟩ : ∃ z, z = h827.size := ⟨_, rfl⟩
  rw [← g844] at A844 st844
  have ne845 : ra ≠ b844 := Nat.ne_of_lt (Nat.lt_of_lt_of_le f828.lt (Nat.le_of_eq g844.symm))
  have ne846 : rc ≠ b844 := Nat.ne_of_lt (Nat.lt_of_lt_of_le f836.lt (Nat.le_of_eq g844.symm))
  have ne847 : b797 ≠ b844 := Nat.ne_of_lt (Nat.lt_of_lt_of_le f837.lt (Nat.le_of_eq g844.symm))
  have ge848 : n0 ≤ b844 := Nat.le_trans Z838 (Nat.le_of_eq g844.symm)
  have f849 : Exa Z h844 ra "com/example/slotwright/slotwright/solver/Occupancy" := f828.ext E844
  have f850 : Fld Z h844 ra "com/example/slotwright/slotwright/solver/Occupancy" "clashing" "[I" (.ref b797) := f829.ext E844
  have f851 : Fld Z h844 ra "com/example/slotwright/slotwright/solver/Occupancy" "slots" "I" (.int (3 : Int32)) := f841.ext E844
  have f852 : Fld Z h844 ra "com/example/slotwright/slotwright/solver/Occupancy" "meetings" "[I" .null := f830.ext E844
  have f853 : Fld Z h844 ra "com/example/slotwright/slotwright/solver/Occupancy" "closed" "[Z" .null := f831.ext E844
  have f854 : Fld Z h844 ra "com/example/slotwright/slotwright/solver/Occupancy" "weights" "[I" .null := f832.ext E844
  have f855 : Fld Z h844 ra "com/example/slotwright/slotwright/solver/Occupancy" "listed" "[Z" .null := f833.ext E844
  have f856 : Fld Z h844 ra "com/example/slotwright/slotwright/solver/Occupancy" "clashingCount" "I" (.int (0 : Int32)) := f834.ext E844
  have f857 : Fld Z h844 ra "com/example/slotwright/slotwright/solver/Occupancy" "weighted" "J" (.long (0 : Int64)) := f835.ext E844
  have f858 : OAL Z h844 rc .boolean Cl := f836.ext E844
  have f859 : OAL Z h844 b797 .int [(0 : Int32), (0 : Int32), (0 : Int32), (0 : Int32), (0 : Int32), (0 : Int32), (0 : Int32), (0 : Int32), (0 : Int32), (0 : Int32), (0 : Int32), (0 : Int32), (0 : Int32), (0 : Int32), (0 : Int32), (0 : Int32)] := f837.ext E844
  have Z860 : n0 ≤ h844.size := Nat.le_trans Z838 E844.1
  have V844 : OAL Z h844 b844 .int [(0 : Int32), (0 : Int32), (0 : Int32), (0 : Int32), (0 : Int32), (0 : Int32)] := OAL.new A844 rfl
  refine OGo.on st844 ?_
  show OGo p e below s _ _ _ (T844.setTop (mkF m 25 #[.val (.ref ra), .val (.int (2 : Int32)), .val (.int (3 : Int32)), .val (.ref rc)] [(.ref b844), (.ref ra)]))
  obtain ⟨T861, h861, X861, e861, W861, st861⟩ := putF X844 hx hZ hown (host := "") (Or.inl (hw _ (List.mem_of_getElem? (i := 21) rfl))) Via.refl e844 f852 f849 (Or.inr ⟨(hw _ (List.mem_of_getElem? (i := 22) rfl)), rfl, hnm⟩) (hw _ (List.mem_of_getElem? (i := 3) rfl)) (ty := (.array .int)) (by decide) rfl rfl (g := (mkF m 25 #[.val (.ref ra), .val (.int (2 : Int32)), .val (.int (3 : Int32)), .val (.ref rc)] [(.ref b844), (.ref ra)])) rfl rfl (hb hby d1_25)
  have f862 : Exa Z h861 ra "com/example/slotwright/slotwright/solver/Occupancy" := f849.wr W861
  have f863 : Fld Z h861 ra "com/example/slotwright/slotwright/solver/Occupancy" "clashing" "[I" (.ref b797) := f850.other W861 (Or.inr (slot_ne (Or.inl (hw _ (List.mem_of_getElem? (i := 13) rfl))) (Or.inr (hw _ (List.mem_of_getElem? (i := 22) rfl))) (by decide) (t := (.array .int)) (t' := (.array .int)) (by decide) (by decide)))
  have f864 : Fld Z h861 ra "com/example/slotwright/slotwright/solver/Occupancy" "slots" "I" (.int (3 : Int32)) := f851.other W861 (Or.inr (slot_ne (Or.inr (hw _ (List.mem_of_getElem? (i := 15) rfl))) (Or.inr (hw _ (List.mem_of_getElem? (i := 22) rfl))) (by decide) (t := .int) (t' := (.array .int)) (by decide) (by decide)))
  have f865 : Fld Z h861 ra "com/example/slotwright/slotwright/solver/Occupancy" "closed" "[Z" .null := f853.other W861 (Or.inr (slot_ne (Or.inr (hw _ (List.mem_of_getElem? (i := 24) rfl))) (Or.inr (hw _ (List.mem_of_getElem? (i := 22) rfl))) (by decide) (t := (.array .boolean)) (t' := (.array .int)) (by decide) (by decide)))
  have f866 : Fld Z h861 ra "com/example/slotwright/slotwright/solver/Occupancy" "weights" "[I" .null := f854.other W861 (Or.inr (slot_ne (Or.inr (hw _ (List.mem_of_getElem? (i := 33) rfl))) (Or.inr (hw _ (List.mem_of_getElem? (i := 22) rfl))) (by decide) (t := (.array .int)) (t' := (.array .int)) (by decide) (by decide)))
  have f867 : Fld Z h861 ra "com/example/slotwright/slotwright/solver/Occupancy" "listed" "[Z" .null := f855.other W861 (Or.inr (slot_ne (Or.inr (hw _ (List.mem_of_getElem? (i := 35) rfl))) (Or.inr (hw _ (List.mem_of_getElem? (i := 22) rfl))) (by decide) (t := (.array .boolean)) (t' := (.array .int)) (by decide) (by decide)))
  have f868 : Fld Z h861 ra "com/example/slotwright/slotwright/solver/Occupancy" "clashingCount" "I" (.int (0 : Int32)) := f856.other W861 (Or.inr (slot_ne (Or.inl (hw _ (List.mem_of_getElem? (i := 49) rfl))) (Or.inr (hw _ (List.mem_of_getElem? (i := 22) rfl))) (by decide) (t := .int) (t' := (.array .int)) (by decide) (by decide)))
  have f869 : Fld Z h861 ra "com/example/slotwright/slotwright/solver/Occupancy" "weighted" "J" (.long (0 : Int64)) := f857.other W861 (Or.inr (slot_ne (Or.inl (hw _ (List.mem_of_getElem? (i := 47) rfl))) (Or.inr (hw _ (List.mem_of_getElem? (i := 22) rfl))) (by decide) (t := .long) (t' := (.array .int)) (by decide) (by decide)))
  have f870 : OAL Z h861 rc .boolean Cl := f858.other W861 (Ne.symm hac)
  have f871 : OAL Z h861 b797 .int [(0 : Int32), (0 : Int32), (0 : Int32), (0 : Int32), (0 : Int32), (0 : Int32), (0 : Int32), (0 : Int32), (0 : Int32), (0 : Int32), (0 : Int32), (0 : Int32), (0 : Int32), (0 : Int32), (0 : Int32), (0 : Int32)] := f859.other W861 (Ne.symm ne798)
  have f872 : OAL Z h861 b844 .int [(0 : Int32), (0 : Int32), (0 : Int32), (0 : Int32), (0 : Int32), (0 : Int32)] := V844.other W861 (Ne.symm ne845)
  have Z873 : n0 ≤ h861.size := Nat.le_trans Z860 (Nat.le_of_eq W861.size.symm)
  have N874 := Fr.snoc X861 Nh843 g_ra
  obtain ⟨Lh875, Xh875, Nh875⟩ := own_hide X861 N874
  have f876 : Fld Z h861 ra "com/example/slotwright/slotwright/solver/Occupancy" "meetings" "[I" (.ref b844) := f852.same W861
  refine OGo.on st861 ?_
  show OGo p e below s _ _ _ (T861.setTop (mkF m 28 #[.val (.ref ra), .val (.int (2 : Int32)), .val (.int (3 : Int32)), .val (.ref rc)] []))
  refine OGo.on (fun t k => XS.aloadN Xh875.here hx rfl (hb hby d1_28) rfl rfl k) ?_
  refine OGo.on (fun t k => XS.aloadN Xh875.here hx rfl (hb hby d1_29) rfl rfl k) ?_
  show OGo p e below s _ _ _ (T861.setTop (mkF m 30 #[.val (.ref ra), .val (.int (2 : Int32)), .val (.int (3 : Int32)), .val (.ref rc)] [(.ref rc), (.ref ra)]))
  obtain ⟨T877, h877, X877, e877, W877, st877⟩ := putF Xh875 hx hZ hown (host := "") (Or.inl (hw _ (List.mem_of_getElem? (i := 23) rfl))) Via.refl e861 f865 f862 (Or.inr ⟨(hw _ (List.mem_of_getElem? (i := 24) rfl)), rfl, hnm⟩) (hw _ (List.mem_of_getElem? (i := 3) rfl)) (ty := (.array .boolean)) (by decide) rfl rfl (g := (mkF m 30 #[.val (.ref ra), .val (.int (2 : Int32)), .val (.int (3 : Int32)), .val (.ref rc)] [(.ref rc), (.ref ra)])) rfl rfl (hb hby d1_30)
  have f878 : Exa Z h877 ra "com/example/slotwright/slotwright/solver/Occupancy" := f862.wr W877
  have f879 : Fld Z h877 ra "com/example/slotwright/slotwright/solver/Occupancy" "clashing" "[I" (.ref b797) := f863.other W877 (Or.inr (slot_ne (Or.inl (hw _ (List.mem_of_getElem? (i := 13) rfl))) (Or.inr (hw _ (List.mem_of_getElem? (i := 24) rfl))) (by decide) (t := (.array .int)) (t' := (.array .boolean)) (by decide) (by decide)))
  have f880 : Fld Z h877 ra "com/example/slotwright/slotwright/solver/Occupancy" "slots" "I" (.int (3 : Int32)) := f864.other W877 (Or.inr (slot_ne (Or.inr (hw _ (List.mem_of_getElem? (i := 15) rfl))) (Or.inr (hw _ (List.mem_of_getElem? (i := 24) rfl))) (by decide) (t := .int) (t' := (.array .boolean)) (by decide) (by decide)))
  have f881 : Fld Z h877 ra "com/example/slotwright/slotwright/solver/Occupancy" "meetings" "[I" (.ref b844) := f876.other W877 (Or.inr (slot_ne (Or.inr (hw _ (List.mem_of_getElem? (i := 22) rfl))) (Or.inr (hw _ (List.mem_of_getElem? (i := 24) rfl))) (by decide) (t := (.array .int)) (t' := (.array .boolean)) (by decide) (by decide)))
  have f882 : Fld Z h877 ra "com/example/slotwright/slotwright/solver/Occupancy" "weights" "[I" .null := f866.other W877 (Or.inr (slot_ne (Or.inr (hw _ (List.mem_of_getElem? (i := 33) rfl))) (Or.inr (hw _ (List.mem_of_getElem? (i := 24) rfl))) (by decide) (t := (.array .int)) (t' := (.array .boolean)) (by decide) (by decide)))
  have f883 : Fld Z h877 ra "com/example/slotwright/slotwright/solver/Occupancy" "listed" "[Z" .null := f867.other W877 (Or.inr (slot_ne (Or.inr (hw _ (List.mem_of_getElem? (i := 35) rfl))) (Or.inr (hw _ (List.mem_of_getElem? (i := 24) rfl))) (by decide) (t := (.array .boolean)) (t' := (.array .boolean)) (by decide) (by decide)))
  have f884 : Fld Z h877 ra "com/example/slotwright/slotwright/solver/Occupancy" "clashingCount" "I" (.int (0 : Int32)) := f868.other W877 (Or.inr (slot_ne (Or.inl (hw _ (List.mem_of_getElem? (i := 49) rfl))) (Or.inr (hw _ (List.mem_of_getElem? (i := 24) rfl))) (by decide) (t := .int) (t' := (.array .boolean)) (by decide) (by decide)))
  have f885 : Fld Z h877 ra "com/example/slotwright/slotwright/solver/Occupancy" "weighted" "J" (.long (0 : Int64)) := f869.other W877 (Or.inr (slot_ne (Or.inl (hw _ (List.mem_of_getElem? (i := 47) rfl))) (Or.inr (hw _ (List.mem_of_getElem? (i := 24) rfl))) (by decide) (t := .long) (t' := (.array .boolean)) (by decide) (by decide)))
  have f886 : OAL Z h877 rc .boolean Cl := f870.other W877 (Ne.symm hac)
  have f887 : OAL Z h877 b797 .int [(0 : Int32), (0 : Int32), (0 : Int32), (0 : Int32), (0 : Int32), (0 : Int32), (0 : Int32), (0 : Int32), (0 : Int32), (0 : Int32), (0 : Int32), (0 : Int32), (0 : Int32), (0 : Int32), (0 : Int32), (0 : Int32)] := f871.other W877 (Ne.symm ne798)
  have f888 : OAL Z h877 b844 .int [(0 : Int32), (0 : Int32), (0 : Int32), (0 : Int32), (0 : Int32), (0 : Int32)] := f872.other W877 (Ne.symm ne845)
  have Z889 : n0 ≤ h877.size := Nat.le_trans Z873 (Nat.le_of_eq W877.size.symm)
  have N890 := Fr.snoc X877 Nh875 g_ra
  obtain ⟨Lh891, Xh891, Nh891⟩ := own_hide X877 N890
  have f892 : Fld Z h877 ra "com/example/slotwright/slotwright/solver/Occupancy" "closed" "[Z" (.ref rc) := f865.same W877
  refine OGo.on st877 ?_
  show OGo p e below s _ _ _ (T877.setTop (mkF m 33 #[.val (.ref ra), .val (.int (2 : Int32)), .val (.int (3 : Int32)), .val (.ref rc)] []))
  refine OGo.on (fun t k => XS.aloadN Xh891.here hx rfl (hb hby d1_33) rfl rfl k) ?_
  refine OGo.on (fun t k => XS.aloadN Xh891.here hx rfl (hb hby d1_34) rfl rfl k) ?_
  show OGo p e below s _ _ _ (T877.setTop (mkF m 35 #[.val (.ref ra), .val (.int (2 : Int32)), .val (.int (3 : Int32)), .val (.ref rc)] [(.ref ra), (.ref ra)]))
  obtain ⟨T893, X893, e893, st893⟩ := getF Xh891 hx hZ hown (host := "") (Or.inl (hw _ (List.mem_of_getElem? (i := 21) rfl))) Via.refl e877 f881 (g := (mkF m 35 #[.val (.ref ra), .val (.int (2 : Int32)), .val (.int (3 : Int32)), .val (.ref rc)] [(.ref ra), (.ref ra)])) rfl rfl (hb hby d1_35)
  refine OGo.on st893 ?_
  show OGo p e below s _ _ _ (T893.setTop (mkF m 38 #[.val (.ref ra), .val (.int (2 : Int32)), .val (.int (3 : Int32)), .val (.ref rc)] [(.ref b844), (.ref ra)]))
  refine OGo.on (fun t k => OAL.len X893 hx hZ e893 f888 rfl (hb hby d1_38) k) ?_
  show OGo p e below s _ _ _ (T893.setTop (mkF m 39 #[.val (.ref ra), .val (.int (2 : Int32)), .val (.int (3 : Int32)), .val (.ref rc)] [(.int (6 : Int32)), (.ref ra)]))
  refine OGo.on (fun t k => XS.iconst X893.here hx rfl (hb hby d1_39) k) ?_
  show OGo p e below s _ _ _ (T893.setTop (mkF m 40 #[.val (.ref ra), .val (.int (2 : Int32)), .val (.int (3 : Int32)), .val (.ref rc)] [(.int (1 : Int32)), (.int (6 : Int32)), (.ref ra)]))
  obtain ⟨_, _, ⟨T894, L894, k894, n894⟩, -, X894, ⟨Lc894, hQ894, l894, y894, z894⟩, st894⟩ := Jvm.LawKit.callS X893 hx (y := (⟨"com/example/slotwright/slotwright/solver/Tables", "filled", "(II)[I"⟩ : MethodName)) hown (mvT hZ (hw _ (List.mem_of_getElem? (i := 25) rfl))) (mvT hZ (hw _ (List.mem_of_getElem? (i := 26) rfl))) (mvT hZ (hw _ (List.mem_of_getElem? (i := 18) rfl))) (mvT hZ (hw _ (List.mem_of_getElem? (i := 27) rfl))) (by decide) (backOf (W := 1) (own_mfilled l Z a0 hw [] h877 n0 Z889) hZ (hw _ (List.mem_of_getElem? (i := 27) rfl)) (hw _ (List.mem_of_getElem? (i := 18) rfl)) (by decide) (by decide)) (g := (mkF m 40 #[.val (.ref ra), .val (.int (2 : Int32)), .val (.int (3 : Int32)), .val (.ref rc)] [(.int (1 : Int32)), (.int (6 : Int32)), (.ref ra)])) rfl (by rw [hml]; rfl) (argsL := [(.int (6 : Int32)), (.int (1 : Int32))]) (rest := [(.ref ra)]) (lenOf own_pd4 rfl) rfl (by show 2 * 0 + _ ≤ _; exact Nat.le_of_eq rfl) (hb hby d1_40) (fun _ _ => ⟨rfl, e893, (by decide : 2 + 1 ≤ _), (by decide : 22 + 6 ≤ _)⟩)
  dsimp only [Pt.U, Pt.locs, Pt.cells, Pt.slots] at X894 l894 y894 z894 st894 hQ894
  subst l894 y894 z894
  obtain ⟨rb894, rfl, N894q, K894, g_rb894, sz_rb894, A894⟩ := hQ894
  have N894 := Fr.app Nh891 N894q
  have ne895 : ra ≠ rb894 := Nat.ne_of_lt (Nat.lt_of_lt_of_le f878.lt sz_rb894)
  have ne896 : rc ≠ rb894 := Nat.ne_of_lt (Nat.lt_of_lt_of_le f886.lt sz_rb894)
  have ne897 : b797 ≠ rb894 := Nat.ne_of_lt (Nat.lt_of_lt_of_le f887.lt sz_rb894)
  have ne898 : b844 ≠ rb894 := Nat.ne_of_lt (Nat.lt_of_lt_of_le f888.lt sz_rb894)
  have f899 : Exa Z T894.heap ra "com/example/slotwright/slotwright/solver/Occupancy" := f878.keep K894
  have f900 : Fld Z T894.heap ra "com/example/slotwright/slotwright/solver/Occupancy" "clashing" "[I" (.ref b797) := f879.keep K894 own_nm0
  have f901 : Fld Z T894.heap ra "com/example/slotwright/slotwright/solver/Occupancy" "slots" "I" (.int (3 : Int32)) := f880.keep K894 own_nm0
  have f902 : Fld Z T894.heap ra "com/example/slotwright/slotwright/solver/Occupancy" "meetings" "[I" (.ref b844) := f881.keep K894 own_nm0
  have f903 : Fld Z T894.heap ra "com/example/slotwright/slotwright/solver/Occupancy" "closed" "[Z" (.ref rc) := f892.keep K894 own_nm0
  have f904 : Fld Z T894.heap ra "com/example/slotwright/slotwright/solver/Occupancy" "weights" "[I" .null := f882.keep K894 own_nm0
  have f905 : Fld Z T894.heap ra "com/example/slotwright/slotwright/solver/Occupancy" "listed" "[Z" .null := f883.keep K894 own_nm0
  have f906 : Fld Z T894.heap ra "com/example/slotwright/slotwright/solver/Occupancy" "clashingCount" "I" (.int (0 : Int32)) := f884.keep K894 own_nm0
  have f907 : Fld Z T894.heap ra "com/example/slotwright/slotwright/solver/Occupancy" "weighted" "J" (.long (0 : Int64)) := f885.keep K894 own_nm0
  have f908 : OAL Z T894.heap rc .boolean Cl := f886.keep K894 own_nm0
  have f909 : OAL Z T894.heap b797 .int [(0 : Int32), (0 : Int32), (0 : Int32), (0 : Int32), (0 : Int32), (0 : Int32), (0 : Int32), (0 : Int32), (0 : Int32), (0 : Int32), (0 : Int32), (0 : Int32), (0 : Int32), (0 : Int32), (0 : Int32), (0 : Int32)] := f887.keep K894 own_nm0
  have f910 : OAL Z T894.heap b844 .int [(0 : Int32), (0 : Int32), (0 : Int32), (0 : Int32), (0 : Int32), (0 : Int32)] := f888.keep K894 own_nm0
  have Z911 : n0 ≤ T894.heap.size := Nat.le_trans Z889 K894.1
  have eh894 : T894.heap = T894.heap := rfl
  obtain ⟨Lh912, Xh912, Nh912⟩ := own_hide X894 N894
  refine OGo.on st894 ?_
  show OGo p e below s _ _ _ (T894.setTop (mkF m 43 #[.val (.ref ra), .val (.int (2 : Int32)), .val (.int (3 : Int32)), .val (.ref rc)] [(.ref rb894), (.ref ra)]))
  obtain ⟨T913, h913, X913, e913, W913, st913⟩ := putF Xh912 hx hZ hown (host := "") (Or.inl (hw _ (List.mem_of_getElem? (i := 32) rfl))) Via.refl eh894 f904 f899 (Or.inr ⟨(hw _ (List.mem_of_getElem? (i := 33) rfl)), rfl, hnm⟩) (hw _ (List.mem_of_getElem? (i := 3) rfl)) (ty := (.array .int)) (by decide) rfl rfl (g := (mkF m 43 #[.val (.ref ra), .val (.int (2 : Int32)), .val (.int (3 : Int32)), .val (.ref rc)] [(.ref rb894), (.ref ra)])) rfl rfl (hb hby d1_43)
  have f914 : Exa Z h913 ra "com/example/slotwright/slotwright/solver/Occupancy" := f899.wr W913
  have f915 : Fld Z h913 ra "com/example/slotwright/slotwright/solver/Occupancy" "clashing" "[I" (.ref b797) := f900.other W913 (Or.inr (slot_ne (Or.inl (hw _ (List.mem_of_getElem? (i := 13) rfl))) (Or.inr (hw _ (List.mem_of_getElem? (i := 33) rfl))) (by decide) (t := (.array .int)) (t' := (.array .int)) (by decide) (by decide)))
  have f916 : Fld Z h913 ra "com/example/slotwright/slotwright/solver/Occupancy" "slots" "I" (.int (3 : Int32)) := f901.other W913 (Or.inr (slot_ne (Or.inr (hw _ (List.mem_of_getElem? (i := 15) rfl))) (Or.inr (hw _ (List.mem_of_getElem? (i := 33) rfl))) (by decide) (t := .int) (t' := (.array .int)) (by decide) (by decide)))
  have f917 : Fld Z h913 ra "com/example/slotwright/slotwright/solver/Occupancy" "meetings" "[I" (.ref b844) := f902.other W913 (Or.inr (slot_ne (Or.inr (hw _ (List.mem_of_getElem? (i := 22) rfl))) (Or.inr (hw _ (List.mem_of_getElem? (i := 33) rfl))) (by decide) (t := (.array .int)) (t' := (.array .int)) (by decide) (by decide)))
  have f918 : Fld Z h913 ra "com/example/slotwright/slotwright/solver/Occupancy" "closed" "[Z" (.ref rc) := f903.other W913 (Or.inr (slot_ne (Or.inr (hw _ (List.mem_of_getElem? (i := 24) rfl))) (Or.inr (hw _ (List.mem_of_getElem? (i := 33) rfl))) (by decide) (t := (.array .boolean)) (t' := (.array .int)) (by decide) (by decide)))
  have f919 : Fld Z h913 ra "com/example/slotwright/slotwright/solver/Occupancy" "listed" "[Z" .null := f905.other W913 (Or.inr (slot_ne (Or.inr (hw _ (List.mem_of_getElem? (i := 35) rfl))) (Or.inr (hw _ (List.mem_of_getElem? (i := 33) rfl))) (by decide) (t := (.array .boolean)) (t' := (.array .int)) (by decide) (by decide)))
  have f920 : Fld Z h913 ra "com/example/slotwright/slotwright/solver/Occupancy" "clashingCount" "I" (.int (0 : Int32)) := f906.other W913 (Or.inr (slot_ne (Or.inl (hw _ (List.mem_of_getElem? (i := 49) rfl))) (Or.inr (hw _ (List.mem_of_getElem? (i := 33) rfl))) (by decide) (t := .int) (t' := (.array .int)) (by decide) (by decide)))
  have f921 : Fld Z h913 ra "com/example/slotwright/slotwright/solver/Occupancy" "weighted" "J" (.long (0 : Int64)) := f907.other W913 (Or.inr (slot_ne (Or.inl (hw _ (List.mem_of_getElem? (i := 47) rfl))) (Or.inr (hw _ (List.mem_of_getElem? (i := 33) rfl))) (by decide) (t := .long) (t' := (.array .int)) (by decide) (by decide)))
  have f922 : OAL Z h913 rc .boolean Cl := f908.other W913 (Ne.symm hac)
  have f923 : OAL Z h913 b797 .int [(0 : Int32), (0 : Int32), (0 : Int32), (0 : Int32), (0 : Int32), (0 : Int32), (0 : Int32), (0 : Int32), (0 : Int32), (0 : Int32), (0 : Int32), (0 : Int32), (0 : Int32), (0 : Int32), (0 : Int32), (0 : Int32)] := f909.other W913 (Ne.symm ne798)
  have f924 : OAL Z h913 b844 .int [(0 : Int32), (0 : Int32), (0 : Int32), (0 : Int32), (0 : Int32), (0 : Int32)] := f910.other W913 (Ne.symm ne845)
  have f925 : OAL Z h913 rb894 .int [(1 : Int32), (1 : Int32), (1 : Int32), (1 : Int32), (1 : Int32), (1 : Int32)] := A894.other W913 (Ne.symm ne895)
  have Z926 : n0 ≤ h913.size := Nat.le_trans Z911 (Nat.le_of_eq W913.size.symm)
  have N927 := Fr.snoc X913 Nh912 g_ra
  obtain ⟨Lh928, Xh928, Nh928⟩ := own_hide X913 N927
  have f929 : Fld Z h913 ra "com/example/slotwright/slotwright/solver/Occupancy" "weights" "[I" (.ref rb894) := f904.same W913
  refine OGo.on st913 ?_
  show OGo p e below s _ _ _ (T913.setTop (mkF m 46 #[.val (.ref ra), .val (.int (2 : Int32)), .val (.int (3 : Int32)), .val (.ref rc)] []))
  refine OGo.on (fun t k => XS.aloadN Xh928.here hx rfl (hb hby d1_46) rfl rfl k) ?_
  refine OGo.on (fun t k => XS.aloadN Xh928.here hx rfl (hb hby d1_47) rfl rfl k) ?_
  show OGo p e below s _ _ _ (T913.setTop (mkF m 48 #[.val (.ref ra), .val (.int (2 : Int32)), .val (.int (3 : Int32)), .val (.ref rc)] [(.ref ra), (.ref ra)]))
  obtain ⟨T930, X930, e930, st930⟩ := getF Xh928 hx hZ hown (host := "") (Or.inl (hw _ (List.mem_of_getElem? (i := 21) rfl))) Via.refl e913 f917 (g := (mkF m 48 #[.val (.ref ra), .val (.int (2 : Int32)), .val (.int (3 : Int32)), .val (.ref rc)] [(.ref ra), (.ref ra)])) rfl rfl (hb hby d1_48)
  refine OGo.on st930 ?_
  show OGo p e below s _ _ _ (T930.setTop (mkF m 51 #[.val (.ref ra), .val (.int (2 : Int32)), .val (.int (3 : Int32)), .val (.ref rc)] [(.ref b844), (.ref ra)]))
  refine OGo.on (fun t k => OAL.len X930 hx hZ e930 f924 rfl (hb hby d1_51) k) ?_
  show OGo p e below s _ _ _ (T930.setTop (mkF m 52 #[.val (.ref ra), .val (.int (2 : Int32)), .val (.int (3 : Int32)), .val (.ref rc)] [(.int (6 : Int32)), (.ref ra)]))
  obtain ⟨T931, h931, k931, X931, e931, E931, A931, st931⟩ := newP X930 hx hZ (hw _ (List.mem_of_getElem? (i := 0) rfl)) e930 (g := (mkF m 52 #[.val (.ref ra), .val (.int (2 : Int32)), .val (.int (3 : Int32)), .val (.ref rc)] [(.int (6 : Int32)), (.ref ra)])) rfl (hb hby d1_52) rfl (by decide) (cap := 6) (by decide) (by decide) (by decide) (by decide)
  obtain ⟨b931, g931⟩ : ∃ z, z = h913.size := ⟨_, rfl⟩
  rw [← g931] at A931 st931
  have ne932 : ra ≠ b931 := Nat.ne_of_lt (Nat.lt_of_lt_of_le f914.lt (Nat.le_of_eq g931.symm))
  have ne933 : rc ≠ b931 := Nat.ne_of_lt (Nat.lt_of_lt_of_le f922.lt (Nat.le_of_eq g931.symm))
  have ne934 : b797 ≠ b931 := Nat.ne_of_lt (Nat.lt_of_lt_of_le f923.lt (Nat.le_of_eq g931.symm))
  have ne935 : b844 ≠ b931 := Nat.ne_of_lt (Nat.lt_of_lt_of_le f924.lt (Nat.le_of_eq g931.symm))
  have ne936 : rb894 ≠ b931 := Nat.ne_of_lt (Nat.lt_of_lt_of_le f925.lt (Nat.le_of_eq g931.symm))
  have ge937 : n0 ≤ b931 := Nat.le_trans Z926 (Nat.le_of_eq g931.symm)
  have f938 : Exa Z h931 ra "com/example/slotwright/slotwright/solver/Occupancy" := f914.ext E931
  have f939 : Fld Z h931 ra "com/example/slotwright/slotwright/solver/Occupancy" "clashing" "[I" (.ref b797) := f915.ext E931
  have f940 : Fld Z h931 ra "com/example/slotwright/slotwright/solver/Occupancy" "slots" "I" (.int (3 : Int32)) := f916.ext E931
  have f941 : Fld Z h931 ra "com/example/slotwright/slotwright/solver/Occupancy" "meetings" "[I" (.ref b844) := f917.ext E931
  have f942 : Fld Z h931 ra "com/example/slotwright/slotwright/solver/Occupancy" "closed" "[Z" (.ref rc) := f918.ext E931
  have f943 : Fld Z h931 ra "com/example/slotwright/slotwright/solver/Occupancy" "weights" "[I" (.ref rb894) := f929.ext E931
  have f944 : Fld Z h931 ra "com/example/slotwright/slotwright/solver/Occupancy" "listed" "[Z" .null := f919.ext E931
  have f945 : Fld Z h931 ra "com/example/slotwright/slotwright/solver/Occupancy" "clashingCount" "I" (.int (0 : Int32)) := f920.ext E931
  have f946 : Fld Z h931 ra "com/example/slotwright/slotwright/solver/Occupancy" "weighted" "J" (.long (0 : Int64)) := f921.ext E931
  have f947 : OAL Z h931 rc .boolean Cl := f922.ext E931
  have f948 : OAL Z h931 b797 .int [(0 : Int32), (0 : Int32), (0 : Int32), (0 : Int32), (0 : Int32), (0 : Int32), (0 : Int32), (0 : Int32), (0 : Int32), (0 : Int32), (0 : Int32), (0 : Int32), (0 : Int32), (0 : Int32), (0 : Int32), (0 : Int32)] := f923.ext E931
  have f949 : OAL Z h931 b844 .int [(0 : Int32), (0 : Int32), (0 : Int32), (0 : Int32), (0 : Int32), (0 : Int32)] := f924.ext E931
  have f950 : OAL Z h931 rb894 .int [(1 : Int32), (1 : Int32), (1 : Int32), (1 : Int32), (1 : Int32), (1 : Int32)] := f925.ext E931
  have Z951 : n0 ≤ h931.size := Nat.le_trans Z926 E931.1
  have V931 : OAL Z h931 b931 .boolean [(0 : Int32), (0 : Int32), (0 : Int32), (0 : Int32), (0 : Int32), (0 : Int32)] := OAL.new A931 rfl
  refine OGo.on st931 ?_
  show OGo p e below s _ _ _ (T931.setTop (mkF m 54 #[.val (.ref ra), .val (.int (2 : Int32)), .val (.int (3 : Int32)), .val (.ref rc)] [(.ref b931), (.ref ra)]))
  obtain ⟨T952, h952, X952, e952, W952, st952⟩ := putF X931 hx hZ hown (host := "") (Or.inl (hw _ (List.mem_of_getElem? (i := 34) rfl))) Via.refl e931 f944 f938 (Or.inr ⟨(hw _ (List.mem_of_getElem? (i := 35) rfl)), rfl, hnm⟩) (hw _ (List.mem_of_getElem? (i := 3) rfl)) (ty := (.array .boolean)) (by decide) rfl rfl (g := (mkF m 54 #[.val (.ref ra), .val (.int (2 : Int32)), .val (.int (3 : Int32)), .val (.ref rc)] [(.ref b931), (.ref ra)])) rfl rfl (hb hby d1_54)
  have f953 : Exa Z h952 ra "com/example/slotwright/slotwright/solver/Occupancy" := f938.wr W952
  have f954 : Fld Z h952 ra "com/example/slotwright/slotwright/solver/Occupancy" "clashing" "[I" (.ref b797) := f939.other W952 (Or.inr (slot_ne (Or.inl (hw _ (List.mem_of_getElem? (i := 13) rfl))) (Or.inr (hw _ (List.mem_of_getElem? (i := 35) rfl))) (by decide) (t := (.array .int)) (t' := (.array .boolean)) (by decide) (by decide)))
  have f955 : Fld Z h952 ra "com/example/slotwright/slotwright/solver/Occupancy" "slots" "I" (.int (3 : Int32)) := f940.other W952 (Or.inr (slot_ne (Or.inr (hw _ (List.mem_of_getElem? (i := 15) rfl))) (Or.inr (hw _ (List.mem_of_getElem? (i := 35) rfl))) (by decide) (t := .int) (t' := (.array .boolean)) (by decide) (by decide)))
  have f956 : Fld Z h952 ra "com/example/slotwright/slotwright/solver/Occupancy" "meetings" "[I" (.ref b844) := f941.other W952 (Or.inr (slot_ne (Or.inr (hw _ (List.mem_of_getElem? (i := 22) rfl))) (Or.inr (hw _ (List.mem_of_getElem? (i := 35) rfl))) (by decide) (t := (.array .int)) (t' := (.array .boolean)) (by decide) (by decide)))
  have f957 : Fld Z h952 ra "com/example/slotwright/slotwright/solver/Occupancy" "closed" "[Z" (.ref rc) := f942.other W952 (Or.inr (slot_ne (Or.inr (hw _ (List.mem_of_getElem? (i := 24) rfl))) (Or.inr (hw _ (List.mem_of_getElem? (i := 35) rfl))) (by decide) (t := (.array .boolean)) (t' := (.array .boolean)) (by decide) (by decide)))
  have f958 : Fld Z h952 ra "com/example/slotwright/slotwright/solver/Occupancy" "weights" "[I" (.ref rb894) := f943.other W952 (Or.inr (slot_ne (Or.inr (hw _ (List.mem_of_getElem? (i := 33) rfl))) (Or.inr (hw _ (List.mem_of_getElem? (i := 35) rfl))) (by decide) (t := (.array .int)) (t' := (.array .boolean)) (by decide) (by decide)))
  have f959 : Fld Z h952 ra "com/example/slotwright/slotwright/solver/Occupancy" "clashingCount" "I" (.int (0 : Int32)) := f945.other W952 (Or.inr (slot_ne (Or.inl (hw _ (List.mem_of_getElem? (i := 49) rfl))) (Or.inr (hw _ (List.mem_of_getElem? (i := 35) rfl))) (by decide) (t := .int) (t' := (.array .boolean)) (by decide) (by decide)))
  have f960 : Fld Z h952 ra "com/example/slotwright/slotwright/solver/Occupancy" "weighted" "J" (.long (0 : Int64)) := f946.other W952 (Or.inr (slot_ne (Or.inl (hw _ (List.mem_of_getElem? (i := 47) rfl))) (Or.inr (hw _ (List.mem_of_getElem? (i := 35) rfl))) (by decide) (t := .long) (t' := (.array .boolean)) (by decide) (by decide)))
  have f961 : OAL Z h952 rc .boolean Cl := f947.other W952 (Ne.symm hac)
  have f962 : OAL Z h952 b797 .int [(0 : Int32), (0 : Int32), (0 : Int32), (0 : Int32), (0 : Int32), (0 : Int32), (0 : Int32), (0 : Int32), (0 : Int32), (0 : Int32), (0 : Int32), (0 : Int32), (0 : Int32), (0 : Int32), (0 : Int32), (0 : Int32)] := f948.other W952 (Ne.symm ne798)
  have f963 : OAL Z h952 b844 .int [(0 : Int32), (0 : Int32), (0 : Int32), (0 : Int32), (0 : Int32), (0 : Int32)] := f949.other W952 (Ne.symm ne845)
  have f964 : OAL Z h952 rb894 .int [(1 : Int32), (1 : Int32), (1 : Int32), (1 : Int32), (1 : Int32), (1 : Int32)] := f950.other W952 (Ne.symm ne895)
  have f965 : OAL Z h952 b931 .boolean [(0 : Int32), (0 : Int32), (0 : Int32), (0 : Int32), (0 : Int32), (0 : Int32)] := V931.other W952 (Ne.symm ne932)
  have Z966 : n0 ≤ h952.size := Nat.le_trans Z951 (Nat.le_of_eq W952.size.symm)
  have N967 := Fr.snoc X952 Nh928 g_ra
  obtain ⟨Lh968, Xh968, Nh968⟩ := own_hide X952 N967
  have f969 : Fld Z h952 ra "com/example/slotwright/slotwright/solver/Occupancy" "listed" "[Z" (.ref b931) := f944.same W952
  refine OGo.on st952 ?_
  show OGo p e below s _ _ _ (T952.setTop (mkF m 57 #[.val (.ref ra), .val (.int (2 : Int32)), .val (.int (3 : Int32)), .val (.ref rc)] []))
  exact OGo.ret0 Xh968 hx hret hlk (hb hby d1_57) ⟨rfl, Nh968, by rw [e952]; exact Z966, b844, rb894, b931, b797, ⟨g_ra, ge848, g_rb894, ge937, ge800, ne845, ne895, hac, ne932, ne798, ne898, (Ne.symm ne846), ne935, (Ne.symm ne847), (Ne.symm ne896), ne936, (Ne.symm ne897), ne933, ne799, (Ne.symm ne934)⟩, by rw [e952]; exact ⟨f953, f954, f955, f956, f957, f958, f969, f959, ⟨_, f960⟩, f963, f964, f961, f965, f962⟩⟩ (by decide) (by decide)
theorem own_pn3 : plainName "com/example/slotwright/slotwright/solver/OccupancyClashesPinLaw" = true := by first | (simp [plainName, overriddenIn]; done) | decide +kernel
theorem own_pd5 : parseMethodDescriptor "(II[Z)V" = some ⟨[.int, .int, (.array .boolean)], none⟩ := by decide +kernel
theorem ef_own_law (m : MethodId) (x0 : Int32) (x1 : Int32) (x2 : Int32) (x3 : Int32) (x4 : Int32) (x5 : Int32) : entryFrame m #[(.int x0), (.int x1), (.int x2), (.int x3), (.int x4), (.int x5)] maxLocals = mkF m 0 #[.val (.int x0), .val (.int x1), .val (.int x2), .val (.int x3), .val (.int x4), .val (.int x5), .unset, .unset, .unset, .unset, .unset, .unset, .unset, .unset, .unset, .unset, .unset, .unset, .unset, .unset, .unset, .unset, .unset, .unset, .unset] [] := by first | (simp [entryFrame, mkF, argsToLocals, Value.category, maxLocals]; done) | rfl
set_option maxRecDepth 65536 in
set_option maxHeartbeats 40000000 in
theorem own_law (l : Launch) (Z : State) (a0 : Array Value) (hw : ∀ d ∈ tables_1, d.before a0 Z = true) (ws : List Jvm.Cond) (va vcnt vbits vown voth vfl : Int32) (h0 : Heap) (n0 : Nat) (Z0 : n0 ≤ h0.size)  :
    MetFree l x (head1 (Jvm.Cond.code x code maxLocals ret :: ws) room_1) (fun a U => a = #[(.int va), (.int vcnt), (.int vbits), (.int vown), (.int voth), (.int vfl)] ∧ Z.Warmed39 U.vm ∧ U.heap = h0) (fun _ _ _ _ _ => True) (fun _ U o U' => ∃ v L, o = .returned v ∧ (fun v h L => v = some (.int 1) ∧ Fr n0 L) v U'.heap L ∧ FrameEnd U o U' L 24 192) := by
  refine MetFree.of_bodySF (plainFor_of_name own_pn3) hisR ?_
  intro p e s m args below meth c s₁ Bd hml0 hP hK
  obtain ⟨rfl, hZ, hh⟩ := hP
  have hx := Bd.exec
  have hby := Bd.bytes
  have hret := Bd.returns
  have hlk : meth.locks = false := Bd.notSynchronized
  have hml : c.maxLocals = 25 := hml0
  have hown : s.vm.findClass "com/example/slotwright/slotwright/solver/OccupancyClashesPinLaw" = some m.cls := findClass_of_methodNamed Bd.named
  have hnm := (name_of_methodNamed Bd.named Bd.method).1
  have X0 : Stand p l e room_1 s m #[(.int va), (.int vcnt), (.int vbits), (.int vown), (.int voth), (.int vfl)] below meth c s₁ [] 0 0 := Stand.of_body Bd
  have e0 : s₁.heap = h0 := by rw [← hh, Bd.state]; rfl
  have N0 := Fr.nil n0
  have pre0 : ∀ t, Steps p.tables e below (s₁.setTop (mkF m 0 #[.val (.int va), .val (.int vcnt), .val (.int vbits), .val (.int vown), .val (.int voth), .val (.int vfl), .unset, .unset, .unset, .unset, .unset, .unset, .unset, .unset, .unset, .unset, .unset, .unset, .unset, .unset, .unset, .unset, .unset, .unset, .unset] [])) t → Steps p.tables e below (s₁.setTop (entryFrame m #[(.int va), (.int vcnt), (.int vbits), (.int vown), (.int voth), (.int vfl)] maxLocals)) t := fun t k => castTop (ef_own_law m va vcnt vbits vown voth vfl) k
  show OGo p e below s (fun v h L => v = some (.int 1) ∧ Fr n0 L) 24 192 (s₁.setTop (entryFrame m #[(.int va), (.int vcnt), (.int vbits), (.int vown), (.int voth), (.int vfl)] maxLocals))
  refine OGo.on pre0 ?_
  show OGo p e below s _ _ _ (s₁.setTop (mkF m 0 #[.val (.int va), .val (.int vcnt), .val (.int vbits), .val (.int vown), .val (.int voth), .val (.int vfl), .unset, .unset, .unset, .unset, .unset, .unset, .unset, .unset, .unset, .unset, .unset, .unset, .unset, .unset, .unset, .unset, .unset, .unset, .unset] []))
  refine OGo.on (fun t k => XS.iloadN X0.here hx rfl (hb hby at_0) rfl k) ?_
  refine OGo.on (fun t k => XS.iconst X0.here hx rfl (hb hby at_1) k) ?_
  refine OGo.on (fun t k => XS.iand X0.here hx rfl (hb hby at_2) rfl k) ?_
  refine OGo.on (fun t k => XS.istore X0.here hx rfl (hb hby at_3) rfl (l' := #[.val (.int va), .val (.int vcnt), .val (.int vbits), .val (.int vown), .val (.int voth), .val (.int vfl), .val (.int (va &&& (1 : Int32))), .unset, .unset, .unset, .unset, .unset, .unset, .unset, .unset, .unset, .unset, .unset, .unset, .unset, .unset, .unset, .unset, .unset, .unset]) rfl k) ?_
  show OGo p e below s _ _ _ (s₁.setTop (mkF m 5 #[.val (.int va), .val (.int vcnt), .val (.int vbits), .val (.int vown), .val (.int voth), .val (.int vfl), .val (.int (va &&& (1 : Int32))), .unset, .unset, .unset, .unset, .unset, .unset, .unset, .unset, .unset, .unset, .unset, .unset, .unset, .unset, .unset, .unset, .unset, .unset] []))
  generalize hv_vr1 : (va &&& (1 : Int32)) = vr1
  show OGo p e below s _ _ _ (s₁.setTop (mkF m 5 #[.val (.int va), .val (.int vcnt), .val (.int vbits), .val (.int vown), .val (.int voth), .val (.int vfl), .val (.int vr1), .unset, .unset, .unset, .unset, .unset, .unset, .unset, .unset, .unset, .unset, .unset, .unset, .unset, .unset, .unset, .unset, .unset, .unset] []))
  have hr1 : InN 2 vr1 := by rw [← hv_vr1]; exact in_1 _
  refine OGo.on (fun t k => XS.iloadN X0.here hx rfl (hb hby at_5) rfl k) ?_
  refine OGo.on (fun t k => XS.iconst X0.here hx rfl (hb hby at_6) k) ?_
  refine OGo.on (fun t k => XS.iushr X0.here hx rfl (hb hby at_7) rfl k) ?_
  refine OGo.on (fun t k => XS.iconst X0.here hx rfl (hb hby at_8) k) ?_
  show OGo p e below s _ _ _ (s₁.setTop (mkF m 9 #[.val (.int va), .val (.int vcnt), .val (.int vbits), .val (.int vown), .val (.int voth), .val (.int vfl), .val (.int vr1), .unset, .unset, .unset, .unset, .unset, .unset, .unset, .unset, .unset, .unset, .unset, .unset, .unset, .unset, .unset, .unset, .unset, .unset] [(.int (3 : Int32)), (.int ((va.toUInt32 >>> ((1 : Int32) &&& 31).toUInt32).toInt32))]))
  refine OGo.on (fun t k => iremM X0 hx rfl (hb hby at_9) rfl (by decide) k) ?_
  show OGo p e below s _ _ _ (s₁.setTop (mkF m 10 #[.val (.int va), .val (.int vcnt), .val (.int vbits), .val (.int vown), .val (.int voth), .val (.int vfl), .val (.int vr1), .unset, .unset, .unset, .unset, .unset, .unset, .unset, .unset, .unset, .unset, .unset, .unset, .unset, .unset, .unset, .unset, .unset, .unset] [(.int (((va.toUInt32 >>> ((1 : Int32) &&& 31).toUInt32).toInt32) % (3 : Int32)))]))
  refine OGo.on (fun t k => XS.istore X0.here hx rfl (hb hby at_10) rfl (l' := #[.val (.int va), .val (.int vcnt), .val (.int vbits), .val (.int vown), .val (.int voth), .val (.int vfl), .val (.int vr1), .val (.int (((va.toUInt32 >>> ((1 : Int32) &&& 31).toUInt32).toInt32) % (3 : Int32))), .unset, .unset, .unset, .unset, .unset, .unset, .unset, .unset, .unset, .unset, .unset, .unset, .unset, .unset, .unset, .unset, .unset]) rfl k) ?_
  show OGo p e below s _ _ _ (s₁.setTop (mkF m 12 #[.val (.int va), .val (.int vcnt), .val (.int vbits), .val (.int vown), .val (.int voth), .val (.int vfl), .val (.int vr1), .val (.int (((va.toUInt32 >>> ((1 : Int32) &&& 31).toUInt32).toInt32) % (3 : Int32))), .unset, .unset, .unset, .unset, .unset, .unset, .unset, .unset, .unset, .unset, .unset, .unset, .unset, .unset, .unset, .unset, .unset] []))
  generalize hv_vs1 : (((va.toUInt32 >>> ((1 : Int32) &&& 31).toUInt32).toInt32) % (3 : Int32)) = vs1
  show OGo p e below s _ _ _ (s₁.setTop (mkF m 12 #[.val (.int va), .val (.int vcnt), .val (.int vbits), .val (.int vown), .val (.int voth), .val (.int vfl), .val (.int vr1), .val (.int vs1), .unset, .unset, .unset, .unset, .unset, .unset, .unset, .unset, .unset, .unset, .unset, .unset, .unset, .unset, .unset, .unset, .unset] []))
  have hs1 : InN 3 vs1 := by rw [← hv_vs1]; exact in_r3 _
  refine OGo.on (fun t k => XS.iload X0.here hx rfl (hb hby at_12) rfl k) ?_
  refine OGo.on (fun t k => XS.iconst X0.here hx rfl (hb hby at_14) k) ?_
  refine OGo.on (fun t k => XS.iand X0.here hx rfl (hb hby at_15) rfl k) ?_
  refine OGo.on (fun t k => XS.istore X0.here hx rfl (hb hby at_16) rfl (l' := #[.val (.int va), .val (.int vcnt), .val (.int vbits), .val (.int vown), .val (.int voth), .val (.int vfl), .val (.int vr1), .val (.int vs1), .val (.int (voth &&& (1 : Int32))), .unset, .unset, .unset, .unset, .unset, .unset, .unset, .unset, .unset, .unset, .unset, .unset, .unset, .unset, .unset, .unset]) rfl k) ?_
  show OGo p e below s _ _ _ (s₁.setTop (mkF m 18 #[.val (.int va), .val (.int vcnt), .val (.int vbits), .val (.int vown), .val (.int voth), .val (.int vfl), .val (.int vr1), .val (.int vs1), .val (.int (voth &&& (1 : Int32))), .unset, .unset, .unset, .unset, .unset, .unset, .unset, .unset, .unset, .unset, .unset, .unset, .unset, .unset, .unset, .unset] []))
  generalize hv_vr2 : (voth &&& (1 : Int32)) = vr2
  show OGo p e below s _ _ _ (s₁.setTop (mkF m 18 #[.val (.int va), .val (.int vcnt), .val (.int vbits), .val (.int vown), .val (.int voth), .val (.int vfl), .val (.int vr1), .val (.int vs1), .val (.int vr2), .unset, .unset, .unset, .unset, .unset, .unset, .unset, .unset, .unset, .unset, .unset, .unset, .unset, .unset, .unset, .unset] []))
  have hr2 : InN 2 vr2 := by rw [← hv_vr2]; exact in_1 _
  refine OGo.on (fun t k => XS.iload X0.here hx rfl (hb hby at_18) rfl k) ?_
  refine OGo.on (fun t k => XS.iconst X0.here hx rfl (hb hby at_20) k) ?_
  refine OGo.on (fun t k => XS.iushr X0.here hx rfl (hb hby at_21) rfl k) ?_
  refine OGo.on (fun t k => XS.iconst X0.here hx rfl (hb hby at_22) k) ?_
  show OGo p e below s _ _ _ (s₁.setTop (mkF m 23 #[.val (.int va), .val (.int vcnt), .val (.int vbits), .val (.int vown), .val (.int voth), .val (.int vfl), .val (.int vr1), .val (.int vs1), .val (.int vr2), .unset, .unset, .unset, .unset, .unset, .unset, .unset, .unset, .unset, .unset, .unset, .unset, .unset, .unset, .unset, .unset] [(.int (3 : Int32)), (.int ((voth.toUInt32 >>> ((1 : Int32) &&& 31).toUInt32).toInt32))]))
  refine OGo.on (fun t k => iremM X0 hx rfl (hb hby at_23) rfl (by decide) k) ?_
  show OGo p e below s _ _ _ (s₁.setTop (mkF m 24 #[.val (.int va), .val (.int vcnt), .val (.int vbits), .val (.int vown), .val (.int voth), .val (.int vfl), .val (.int vr1), .val (.int vs1), .val (.int vr2), .unset, .unset, .unset, .unset, .unset, .unset, .unset, .unset, .unset, .unset, .unset, .unset, .unset, .unset, .unset, .unset] [(.int (((voth.toUInt32 >>> ((1 : Int32) &&& 31).toUInt32).toInt32) % (3 : Int32)))]))
  refine OGo.on (fun t k => XS.istore X0.here hx rfl (hb hby at_24) rfl (l' := #[.val (.int va), .val (.int vcnt), .val (.int vbits), .val (.int vown), .val (.int voth), .val (.int vfl), .val (.int vr1), .val (.int vs1), .val (.int vr2), .val (.int (((voth.toUInt32 >>> ((1 : Int32) &&& 31).toUInt32).toInt32) % (3 : Int32))), .unset, .unset, .unset, .unset, .unset, .unset, .unset, .unset, .unset, .unset, .unset, .unset, .unset, .unset, .unset]) rfl k) ?_
  show OGo p e below s _ _ _ (s₁.setTop (mkF m 26 #[.val (.int va), .val (.int vcnt), .val (.int vbits), .val (.int vown), .val (.int voth), .val (.int vfl), .val (.int vr1), .val (.int vs1), .val (.int vr2), .val (.int (((voth.toUInt32 >>> ((1 : Int32) &&& 31).toUInt32).toInt32) % (3 : Int32))), .unset, .unset, .unset, .unset, .unset, .unset, .unset, .unset, .unset, .unset, .unset, .unset, .unset, .unset, .unset] []))
  generalize hv_vs2 : (((voth.toUInt32 >>> ((1 : Int32) &&& 31).toUInt32).toInt32) % (3 : Int32)) = vs2
  show OGo p e below s _ _ _ (s₁.setTop (mkF m 26 #[.val (.int va), .val (.int vcnt), .val (.int vbits), .val (.int vown), .val (.int voth), .val (.int vfl), .val (.int vr1), .val (.int vs1), .val (.int vr2), .val (.int vs2), .unset, .unset, .unset, .unset, .unset, .unset, .unset, .unset, .unset, .unset, .unset, .unset, .unset, .unset, .unset] []))
  have hs2 : InN 3 vs2 := by rw [← hv_vs2]; exact in_r3 _
  refine OGo.on (fun t k => XS.iloadN X0.here hx rfl (hb hby at_26) rfl k) ?_
  refine OGo.on (fun t k => XS.iconst X0.here hx rfl (hb hby at_27) k) ?_
  refine OGo.on (fun t k => XS.iand X0.here hx rfl (hb hby at_28) rfl k) ?_
  refine OGo.on (fun t k => XS.istore X0.here hx rfl (hb hby at_29) rfl (l' := #[.val (.int va), .val (.int vcnt), .val (.int vbits), .val (.int vown), .val (.int voth), .val (.int vfl), .val (.int vr1), .val (.int vs1), .val (.int vr2), .val (.int vs2), .val (.int (vcnt &&& (3 : Int32))), .unset, .unset, .unset, .unset, .unset, .unset, .unset, .unset, .unset, .unset, .unset, .unset, .unset, .unset]) rfl k) ?_
  show OGo p e below s _ _ _ (s₁.setTop (mkF m 31 #[.val (.int va), .val (.int vcnt), .val (.int vbits), .val (.int vown), .val (.int voth), .val (.int vfl), .val (.int vr1), .val (.int vs1), .val (.int vr2), .val (.int vs2), .val (.int (vcnt &&& (3 : Int32))), .unset, .unset, .unset, .unset, .unset, .unset, .unset, .unset, .unset, .unset, .unset, .unset, .unset, .unset] []))
  generalize hv_vk : (vcnt &&& (3 : Int32)) = vk
  show OGo p e below s _ _ _ (s₁.setTop (mkF m 31 #[.val (.int va), .val (.int vcnt), .val (.int vbits), .val (.int vown), .val (.int voth), .val (.int vfl), .val (.int vr1), .val (.int vs1), .val (.int vr2), .val (.int vs2), .val (.int vk), .unset, .unset, .unset, .unset, .unset, .unset, .unset, .unset, .unset, .unset, .unset, .unset, .unset, .unset] []))
  have hk : InN 4 vk := by rw [← hv_vk]; exact in_3 _
  refine OGo.on (fun t k => XS.iloadN X0.here hx rfl (hb hby at_31) rfl k) ?_
  refine OGo.on (fun t k => XS.iconst X0.here hx rfl (hb hby at_32) k) ?_
  refine OGo.on (fun t k => XS.iushr X0.here hx rfl (hb hby at_33) rfl k) ?_
  refine OGo.on (fun t k => XS.iconst X0.here hx rfl (hb hby at_34) k) ?_
  show OGo p e below s _ _ _ (s₁.setTop (mkF m 35 #[.val (.int va), .val (.int vcnt), .val (.int vbits), .val (.int vown), .val (.int voth), .val (.int vfl), .val (.int vr1), .val (.int vs1), .val (.int vr2), .val (.int vs2), .val (.int vk), .unset, .unset, .unset, .unset, .unset, .unset, .unset, .unset, .unset, .unset, .unset, .unset, .unset, .unset] [(.int (1 : Int32)), (.int ((vcnt.toUInt32 >>> ((2 : Int32) &&& 31).toUInt32).toInt32))]))
  refine OGo.on (fun t k => XS.iand X0.here hx rfl (hb hby at_35) rfl k) ?_
  refine OGo.on (fun t k => XS.istore X0.here hx rfl (hb hby at_36) rfl (l' := #[.val (.int va), .val (.int vcnt), .val (.int vbits), .val (.int vown), .val (.int voth), .val (.int vfl), .val (.int vr1), .val (.int vs1), .val (.int vr2), .val (.int vs2), .val (.int vk), .val (.int (((vcnt.toUInt32 >>> ((2 : Int32) &&& 31).toUInt32).toInt32) &&& (1 : Int32))), .unset, .unset, .unset, .unset, .unset, .unset, .unset, .unset, .unset, .unset, .unset, .unset, .unset]) rfl k) ?_
  show OGo p e below s _ _ _ (s₁.setTop (mkF m 38 #[.val (.int va), .val (.int vcnt), .val (.int vbits), .val (.int vown), .val (.int voth), .val (.int vfl), .val (.int vr1), .val (.int vs1), .val (.int vr2), .val (.int vs2), .val (.int vk), .val (.int (((vcnt.toUInt32 >>> ((2 : Int32) &&& 31).toUInt32).toInt32) &&& (1 : Int32))), .unset, .unset, .unset, .unset, .unset, .unset, .unset, .unset, .unset, .unset, .unset, .unset, .unset] []))
  generalize hv_vm : (((vcnt.toUInt32 >>> ((2 : Int32) &&& 31).toUInt32).toInt32) &&& (1 : Int32)) = vm
  show OGo p e below s _ _ _ (s₁.setTop (mkF m 38 #[.val (.int va), .val (.int vcnt), .val (.int vbits), .val (.int vown), .val (.int voth), .val (.int vfl), .val (.int vr1), .val (.int vs1), .val (.int vr2), .val (.int vs2), .val (.int vk), .val (.int vm), .unset, .unset, .unset, .unset, .unset, .unset, .unset, .unset, .unset, .unset, .unset, .unset, .unset] []))
  have hm : InN 2 vm := by rw [← hv_vm]; exact in_1 _
  have hi : InN 6 ((vr1 * (3 : Int32)) + vs1) := in_p hr1 hs1
  have hj : InN 6 ((vr2 * (3 : Int32)) + vs2) := in_p hr2 hs2
  have J66 : ∀ (x12 x13 : Int32), OGo p e below s (fun v h L => v = some (.int 1) ∧ Fr n0 L) 24 192 (s₁.setTop (mkF m 66 #[.val (.int va), .val (.int vcnt), .val (.int vbits), .val (.int vown), .val (.int voth), .val (.int vfl), .val (.int vr1), .val (.int vs1), .val (.int vr2), .val (.int vs2), .val (.int vk), .val (.int vm), .val (.int x12), .val (.int x13), .unset, .unset, .unset, .unset, .unset, .unset, .unset, .unset, .unset, .unset, .unset] [])) := by
    intro x12 x13
    show OGo p e below s _ _ _ (s₁.setTop (mkF m 66 #[.val (.int va), .val (.int vcnt), .val (.int vbits), .val (.int vown), .val (.int voth), .val (.int vfl), .val (.int vr1), .val (.int vs1), .val (.int vr2), .val (.int vs2), .val (.int vk), .val (.int vm), .val (.int x12), .val (.int x13), .unset, .unset, .unset, .unset, .unset, .unset, .unset, .unset, .unset, .unset, .unset] []))
    refine OGo.on (fun t k => XS.bipush X0.here hx rfl (hb hby at_66) k) ?_
    show OGo p e below s _ _ _ (s₁.setTop (mkF m 68 #[.val (.int va), .val (.int vcnt), .val (.int vbits), .val (.int vown), .val (.int voth), .val (.int vfl), .val (.int vr1), .val (.int vs1), .val (.int vr2), .val (.int vs2), .val (.int vk), .val (.int vm), .val (.int x12), .val (.int x13), .unset, .unset, .unset, .unset, .unset, .unset, .unset, .unset, .unset, .unset, .unset] [(.int (6 : Int32))]))
    obtain ⟨T970, h970, k970, X970, e970, E970, A970, st970⟩ := newP X0 hx hZ (hw _ (List.mem_of_getElem? (i := 0) rfl)) e0 (g := (mkF m 68 #[.val (.int va), .val (.int vcnt), .val (.int vbits), .val (.int vown), .val (.int voth), .val (.int vfl), .val (.int vr1), .val (.int vs1), .val (.int vr2), .val (.int vs2), .val (.int vk), .val (.int vm), .val (.int x12), .val (.int x13), .unset, .unset, .unset, .unset, .unset, .unset, .unset, .unset, .unset, .unset, .unset] [(.int (6 : Int32))])) rfl (hb hby at_68) rfl (by decide) (cap := 6) (by decide) (by decide) (by decide) (by decide)
    obtain ⟨b970, g970⟩ : ∃ z, z = h0.size := ⟨_, rfl⟩
    rw [← g970] at A970 st970
    have ge971 : n0 ≤ b970 := Nat.le_trans Z0 (Nat.le_of_eq g970.symm)
    have Z972 : n0 ≤ h970.size := Nat.le_trans Z0 E970.1
    have V970 : OAL Z h970 b970 .boolean [(0 : Int32), (0 : Int32), (0 : Int32), (0 : Int32), (0 : Int32), (0 : Int32)] := OAL.new A970 rfl
    refine OGo.on st970 ?_
    show OGo p e below s _ _ _ (T970.setTop (mkF m 70 #[.val (.int va), .val (.int vcnt), .val (.int vbits), .val (.int vown), .val (.int voth), .val (.int vfl), .val (.int vr1), .val (.int vs1), .val (.int vr2), .val (.int vs2), .val (.int vk), .val (.int vm), .val (.int x12), .val (.int x13), .unset, .unset, .unset, .unset, .unset, .unset, .unset, .unset, .unset, .unset, .unset] [(.ref b970)]))
    refine OGo.on (fun t k => XS.astore X970.here hx rfl (hb hby at_70) rfl rfl (l' := #[.val (.int va), .val (.int vcnt), .val (.int vbits), .val (.int vown), .val (.int voth), .val (.int vfl), .val (.int vr1), .val (.int vs1), .val (.int vr2), .val (.int vs2), .val (.int vk), .val (.int vm), .val (.int x12), .val (.int x13), .val (.ref b970), .unset, .unset, .unset, .unset, .unset, .unset, .unset, .unset, .unset, .unset]) rfl k) ?_
    refine OGo.on (fun t k => XS.aload X970.here hx rfl (hb hby at_72) rfl rfl k) ?_
    refine OGo.on (fun t k => XS.iconst X970.here hx rfl (hb hby at_74) k) ?_
    show OGo p e below s _ _ _ (T970.setTop (mkF m 75 #[.val (.int va), .val (.int vcnt), .val (.int vbits), .val (.int vown), .val (.int voth), .val (.int vfl), .val (.int vr1), .val (.int vs1), .val (.int vr2), .val (.int vs2), .val (.int vk), .val (.int vm), .val (.int x12), .val (.int x13), .val (.ref b970), .unset, .unset, .unset, .unset, .unset, .unset, .unset, .unset, .unset, .unset] [(.int (0 : Int32)), (.ref b970)]))
    have J86 : ∀ (x0 : Int32) (hx0 : x0 = own_bitp vbits 0), OGo p e below s (fun v h L => v = some (.int 1) ∧ Fr n0 L) 24 192 (T970.setTop (mkF m 86 #[.val (.int va), .val (.int vcnt), .val (.int vbits), .val (.int vown), .val (.int voth), .val (.int vfl), .val (.int vr1), .val (.int vs1), .val (.int vr2), .val (.int vs2), .val (.int vk), .val (.int vm), .val (.int x12), .val (.int x13), .val (.ref b970), .unset, .unset, .unset, .unset, .unset, .unset, .unset, .unset, .unset, .unset] [(.int x0), (.int (0 : Int32)), (.ref b970)])) := by
      intro x0 hx0
      show OGo p e below s _ _ _ (T970.setTop (mkF m 86 #[.val (.int va), .val (.int vcnt), .val (.int vbits), .val (.int vown), .val (.int voth), .val (.int vfl), .val (.int vr1), .val (.int vs1), .val (.int vr2), .val (.int vs2), .val (.int vk), .val (.int vm), .val (.int x12), .val (.int x13), .val (.ref b970), .unset, .unset, .unset, .unset, .unset, .unset, .unset, .unset, .unset, .unset] [(.int x0), (.int (0 : Int32)), (.ref b970)]))
      obtain ⟨T973, h973, X973, e973, W973, A973, st973⟩ := OAL.stZ X970 hx hZ e970 V970 (j := (0 : Int32)) (x := x0) (by decide) (by decide : 0 < 6) (Ls := #[.val (.int va), .val (.int vcnt), .val (.int vbits), .val (.int vown), .val (.int voth), .val (.int vfl), .val (.int vr1), .val (.int vs1), .val (.int vr2), .val (.int vs2), .val (.int vk), .val (.int vm), .val (.int x12), .val (.int x13), .val (.ref b970), .unset, .unset, .unset, .unset, .unset, .unset, .unset, .unset, .unset, .unset]) (rest := []) (hb hby at_86)
      have Z974 : n0 ≤ h973.size := Nat.le_trans Z972 (Nat.le_of_eq W973.size.symm)
      have N975 := Fr.snoc X973 N0 ge971
      obtain ⟨Lh976, Xh976, Nh976⟩ := own_hide X973 N975
      have V973 : OAL Z h973 b970 .boolean [(nar .boolean x0), (0 : Int32), (0 : Int32), (0 : Int32), (0 : Int32), (0 : Int32)] := A973
      refine OGo.on st973 ?_
      show OGo p e below s _ _ _ (T973.setTop (mkF m 87 #[.val (.int va), .val (.int vcnt), .val (.int vbits), .val (.int vown), .val (.int voth), .val (.int vfl), .val (.int vr1), .val (.int vs1), .val (.int vr2), .val (.int vs2), .val (.int vk), .val (.int vm), .val (.int x12), .val (.int x13), .val (.ref b970), .unset, .unset, .unset, .unset, .unset, .unset, .unset, .unset, .unset, .unset] []))
      refine OGo.on (fun t k => XS.aload Xh976.here hx rfl (hb hby at_87) rfl rfl k) ?_
      refine OGo.on (fun t k => XS.iconst Xh976.here hx rfl (hb hby at_89) k) ?_
      show OGo p e below s _ _ _ (T973.setTop (mkF m 90 #[.val (.int va), .val (.int vcnt), .val (.int vbits), .val (.int vown), .val (.int voth), .val (.int vfl), .val (.int vr1), .val (.int vs1), .val (.int vr2), .val (.int vs2), .val (.int vk), .val (.int vm), .val (.int x12), .val (.int x13), .val (.ref b970), .unset, .unset, .unset, .unset, .unset, .unset, .unset, .unset, .unset, .unset] [(.int (1 : Int32)), (.ref b970)]))
      have J103 : ∀ (x1 : Int32) (hx1 : x1 = own_bitp vbits 1), OGo p e below s (fun v h L => v = some (.int 1) ∧ Fr n0 L) 24 192 (T973.setTop (mkF m 103 #[.val (.int va), .val (.int vcnt), .val (.int vbits), .val (.int vown), .val (.int voth), .val (.int vfl), .val (.int vr1), .val (.int vs1), .val (.int vr2), .val (.int vs2), .val (.int vk), .val (.int vm), .val (.int x12), .val (.int x13), .val (.ref b970), .unset, .unset, .unset, .unset, .unset, .unset, .unset, .unset, .unset, .unset] [(.int x1), (.int (1 : Int32)), (.ref b970)])) := by
        intro x1 hx1
        show OGo p e below s _ _ _ (T973.setTop (mkF m 103 #[.val (.int va), .val (.int vcnt), .val (.int vbits), .val (.int vown), .val (.int voth), .val (.int vfl), .val (.int vr1), .val (.int vs1), .val (.int vr2), .val (.int vs2), .val (.int vk), .val (.int vm), .val (.int x12), .val (.int x13), .val (.ref b970), .unset, .unset, .unset, .unset, .unset, .unset, .unset, .unset, .unset, .unset] [(.int x1), (.int (1 : Int32)), (.ref b970)]))
        obtain ⟨T977, h977, X977, e977, W977, A977, st977⟩ := OAL.stZ Xh976 hx hZ e973 V973 (j := (1 : Int32)) (x := x1) (by decide) (by decide : 1 < 6) (Ls := #[.val (.int va), .val (.int vcnt), .val (.int vbits), .val (.int vown), .val (.int voth), .val (.int vfl), .val (.int vr1), .val (.int vs1), .val (.int vr2), .val (.int vs2), .val (.int vk), .val (.int vm), .val (.int x12), .val (.int x13), .val (.ref b970), .unset, .unset, .unset, .unset, .unset, .unset, .unset, .unset, .unset, .unset]) (rest := []) (hb hby at_103)
        have Z978 : n0 ≤ h977.size := Nat.le_trans Z974 (Nat.le_of_eq W977.size.symm)
        have N979 := Fr.snoc X977 Nh976 ge971
        obtain ⟨Lh980, Xh980, Nh980⟩ := own_hide X977 N979
        have V977 : OAL Z h977 b970 .boolean [(nar .boolean x0), (nar .boolean x1), (0 : Int32), (0 : Int32), (0 : Int32), (0 : Int32)] := A977
        refine OGo.on st977 ?_
        show OGo p e below s _ _ _ (T977.setTop (mkF m 104 #[.val (.int va), .val (.int vcnt), .val (.int vbits), .val (.int vown), .val (.int voth), .val (.int vfl), .val (.int vr1), .val (.int vs1), .val (.int vr2), .val (.int vs2), .val (.int vk), .val (.int vm), .val (.int x12), .val (.int x13), .val (.ref b970), .unset, .unset, .unset, .unset, .unset, .unset, .unset, .unset, .unset, .unset] []))
        refine OGo.on (fun t k => XS.aload Xh980.here hx rfl (hb hby at_104) rfl rfl k) ?_
        refine OGo.on (fun t k => XS.iconst Xh980.here hx rfl (hb hby at_106) k) ?_
        show OGo p e below s _ _ _ (T977.setTop (mkF m 107 #[.val (.int va), .val (.int vcnt), .val (.int vbits), .val (.int vown), .val (.int voth), .val (.int vfl), .val (.int vr1), .val (.int vs1), .val (.int vr2), .val (.int vs2), .val (.int vk), .val (.int vm), .val (.int x12), .val (.int x13), .val (.ref b970), .unset, .unset, .unset, .unset, .unset, .unset, .unset, .unset, .unset, .unset] [(.int (2 : Int32)), (.ref b970)]))
        have J120 : ∀ (x2 : Int32) (hx2 : x2 = own_bitp vbits 2), OGo p e below s (fun v h L => v = some (.int 1) ∧ Fr n0 L) 24 192 (T977.setTop (mkF m 120 #[.val (.int va), .val (.int vcnt), .val (.int vbits), .val (.int vown), .val (.int voth), .val (.int vfl), .val (.int vr1), .val (.int vs1), .val (.int vr2), .val (.int vs2), .val (.int vk), .val (.int vm), .val (.int x12), .val (.int x13), .val (.ref b970), .unset, .unset, .unset, .unset, .unset, .unset, .unset, .unset, .unset, .unset] [(.int x2), (.int (2 : Int32)), (.ref b970)])) := by
          intro x2 hx2
          show OGo p e below s _ _ _ (T977.setTop (mkF m 120 #[.val (.int va), .val (.int vcnt), .val (.int vbits), .val (.int vown), .val (.int voth), .val (.int vfl), .val (.int vr1), .val (.int vs1), .val (.int vr2), .val (.int vs2), .val (.int vk), .val (.int vm), .val (.int x12), .val (.int x13), .val (.ref b970), .unset, .unset, .unset, .unset, .unset, .unset, .unset, .unset, .unset, .unset] [(.int x2), (.int (2 : Int32)), (.ref b970)]))
          obtain ⟨T981, h981, X981, e981, W981, A981, st981⟩ := OAL.stZ Xh980 hx hZ e977 V977 (j := (2 : Int32)) (x := x2) (by decide) (by decide : 2 < 6) (Ls := #[.val (.int va), .val (.int vcnt), .val (.int vbits), .val (.int vown), .val (.int voth), .val (.int vfl), .val (.int vr1), .val (.int vs1), .val (.int vr2), .val (.int vs2), .val (.int vk), .val (.int vm), .val (.int x12), .val (.int x13), .val (.ref b970), .unset, .unset, .unset, .unset, .unset, .unset, .unset, .unset, .unset, .unset]) (rest := []) (hb hby at_120)
          have Z982 : n0 ≤ h981.size := Nat.le_trans Z978 (Nat.le_of_eq W981.size.symm)
          have N983 := Fr.snoc X981 Nh980 ge971
          obtain ⟨Lh984, Xh984, Nh984⟩ := own_hide X981 N983
          have V981 : OAL Z h981 b970 .boolean [(nar .boolean x0), (nar .boolean x1), (nar .boolean x2), (0 : Int32), (0 : Int32), (0 : Int32)] := A981
          refine OGo.on st981 ?_
          show OGo p e below s _ _ _ (T981.setTop (mkF m 121 #[.val (.int va), .val (.int vcnt), .val (.int vbits), .val (.int vown), .val (.int voth), .val (.int vfl), .val (.int vr1), .val (.int vs1), .val (.int vr2), .val (.int vs2), .val (.int vk), .val (.int vm), .val (.int x12), .val (.int x13), .val (.ref b970), .unset, .unset, .unset, .unset, .unset, .unset, .unset, .unset, .unset, .unset] []))
          refine OGo.on (fun t k => XS.aload Xh984.here hx rfl (hb hby at_121) rfl rfl k) ?_
          refine OGo.on (fun t k => XS.iconst Xh984.here hx rfl (hb hby at_123) k) ?_
          show OGo p e below s _ _ _ (T981.setTop (mkF m 124 #[.val (.int va), .val (.int vcnt), .val (.int vbits), .val (.int vown), .val (.int voth), .val (.int vfl), .val (.int vr1), .val (.int vs1), .val (.int vr2), .val (.int vs2), .val (.int vk), .val (.int vm), .val (.int x12), .val (.int x13), .val (.ref b970), .unset, .unset, .unset, .unset, .unset, .unset, .unset, .unset, .unset, .unset] [(.int (3 : Int32)), (.ref b970)]))
          have J137 : ∀ (x3 : Int32) (hx3 : x3 = own_bitp vbits 3), OGo p e below s (fun v h L => v = some (.int 1) ∧ Fr n0 L) 24 192 (T981.setTop (mkF m 137 #[.val (.int va), .val (.int vcnt), .val (.int vbits), .val (.int vown), .val (.int voth), .val (.int vfl), .val (.int vr1), .val (.int vs1), .val (.int vr2), .val (.int vs2), .val (.int vk), .val (.int vm), .val (.int x12), .val (.int x13), .val (.ref b970), .unset, .unset, .unset, .unset, .unset, .unset, .unset, .unset, .unset, .unset] [(.int x3), (.int (3 : Int32)), (.ref b970)])) := by
            intro x3 hx3
            show OGo p e below s _ _ _ (T981.setTop (mkF m 137 #[.val (.int va), .val (.int vcnt), .val (.int vbits), .val (.int vown), .val (.int voth), .val (.int vfl), .val (.int vr1), .val (.int vs1), .val (.int vr2), .val (.int vs2), .val (.int vk), .val (.int vm), .val (.int x12), .val (.int x13), .val (.ref b970), .unset, .unset, .unset, .unset, .unset, .unset, .unset, .unset, .unset, .unset] [(.int x3), (.int (3 : Int32)), (.ref b970)]))
            obtain ⟨T985, h985, X985, e985, W985, A985, st985⟩ := OAL.stZ Xh984 hx hZ e981 V981 (j := (3 : Int32)) (x := x3) (by decide) (by decide : 3 < 6) (Ls := #[.val (.int va), .val (.int vcnt), .val (.int vbits), .val (.int vown), .val (.int voth), .val (.int vfl), .val (.int vr1), .val (.int vs1), .val (.int vr2), .val (.int vs2), .val (.int vk), .val (.int vm), .val (.int x12), .val (.int x13), .val (.ref b970), .unset, .unset, .unset, .unset, .unset, .unset, .unset, .unset, .unset, .unset]) (rest := []) (hb hby at_137)
            have Z986 : n0 ≤ h985.size := Nat.le_trans Z982 (Nat.le_of_eq W985.size.symm)
            have N987 := Fr.snoc X985 Nh984 ge971
            obtain ⟨Lh988, Xh988, Nh988⟩ := own_hide X985 N987
            have V985 : OAL Z h985 b970 .boolean [(nar .boolean x0), (nar .boolean x1), (nar .boolean x2), (nar .boolean x3), (0 : Int32), (0 : Int32)] := A985
            refine OGo.on st985 ?_
            show OGo p e below s _ _ _ (T985.setTop (mkF m 138 #[.val (.int va), .val (.int vcnt), .val (.int vbits), .val (.int vown), .val (.int voth), .val (.int vfl), .val (.int vr1), .val (.int vs1), .val (.int vr2), .val (.int vs2), .val (.int vk), .val (.int vm), .val (.int x12), .val (.int x13), .val (.ref b970), .unset, .unset, .unset, .unset, .unset, .unset, .unset, .unset, .unset, .unset] []))
            refine OGo.on (fun t k => XS.aload Xh988.here hx rfl (hb hby at_138) rfl rfl k) ?_
            refine OGo.on (fun t k => XS.iconst Xh988.here hx rfl (hb hby at_140) k) ?_
            show OGo p e below s _ _ _ (T985.setTop (mkF m 141 #[.val (.int va), .val (.int vcnt), .val (.int vbits), .val (.int vown), .val (.int voth), .val (.int vfl), .val (.int vr1), .val (.int vs1), .val (.int vr2), .val (.int vs2), .val (.int vk), .val (.int vm), .val (.int x12), .val (.int x13), .val (.ref b970), .unset, .unset, .unset, .unset, .unset, .unset, .unset, .unset, .unset, .unset] [(.int (4 : Int32)), (.ref b970)]))
            have J154 : ∀ (x4 : Int32) (hx4 : x4 = own_bitp vbits 4), OGo p e below s (fun v h L => v = some (.int 1) ∧ Fr n0 L) 24 192 (T985.setTop (mkF m 154 #[.val (.int va), .val (.int vcnt), .val (.int vbits), .val (.int vown), .val (.int voth), .val (.int vfl), .val (.int vr1), .val (.int vs1), .val (.int vr2), .val (.int vs2), .val (.int vk), .val (.int vm), .val (.int x12), .val (.int x13), .val (.ref b970), .unset, .unset, .unset, .unset, .unset, .unset, .unset, .unset, .unset, .unset] [(.int x4), (.int (4 : Int32)), (.ref b970)])) := by
              intro x4 hx4
              show OGo p e below s _ _ _ (T985.setTop (mkF m 154 #[.val (.int va), .val (.int vcnt), .val (.int vbits), .val (.int vown), .val (.int voth), .val (.int vfl), .val (.int vr1), .val (.int vs1), .val (.int vr2), .val (.int vs2), .val (.int vk), .val (.int vm), .val (.int x12), .val (.int x13), .val (.ref b970), .unset, .unset, .unset, .unset, .unset, .unset, .unset, .unset, .unset, .unset] [(.int x4), (.int (4 : Int32)), (.ref b970)]))
              obtain ⟨T989, h989, X989, e989, W989, A989, st989⟩ := OAL.stZ Xh988 hx hZ e985 V985 (j := (4 : Int32)) (x := x4) (by decide) (by decide : 4 < 6) (Ls := #[.val (.int va), .val (.int vcnt), .val (.int vbits), .val (.int vown), .val (.int voth), .val (.int vfl), .val (.int vr1), .val (.int vs1), .val (.int vr2), .val (.int vs2), .val (.int vk), .val (.int vm), .val (.int x12), .val (.int x13), .val (.ref b970), .unset, .unset, .unset, .unset, .unset, .unset, .unset, .unset, .unset, .unset]) (rest := []) (hb hby at_154)
              have Z990 : n0 ≤ h989.size := Nat.le_trans Z986 (Nat.le_of_eq W989.size.symm)
              have N991 := Fr.snoc X989 Nh988 ge971
              obtain ⟨Lh992, Xh992, Nh992⟩ := own_hide X989 N991
              have V989 : OAL Z h989 b970 .boolean [(nar .boolean x0), (nar .boolean x1), (nar .boolean x2), (nar .boolean x3), (nar .boolean x4), (0 : Int32)] := A989
              refine OGo.on st989 ?_
              show OGo p e below s _ _ _ (T989.setTop (mkF m 155 #[.val (.int va), .val (.int vcnt), .val (.int vbits), .val (.int vown), .val (.int voth), .val (.int vfl), .val (.int vr1), .val (.int vs1), .val (.int vr2), .val (.int vs2), .val (.int vk), .val (.int vm), .val (.int x12), .val (.int x13), .val (.ref b970), .unset, .unset, .unset, .unset, .unset, .unset, .unset, .unset, .unset, .unset] []))
              refine OGo.on (fun t k => XS.aload Xh992.here hx rfl (hb hby at_155) rfl rfl k) ?_
              refine OGo.on (fun t k => XS.iconst Xh992.here hx rfl (hb hby at_157) k) ?_
              show OGo p e below s _ _ _ (T989.setTop (mkF m 158 #[.val (.int va), .val (.int vcnt), .val (.int vbits), .val (.int vown), .val (.int voth), .val (.int vfl), .val (.int vr1), .val (.int vs1), .val (.int vr2), .val (.int vs2), .val (.int vk), .val (.int vm), .val (.int x12), .val (.int x13), .val (.ref b970), .unset, .unset, .unset, .unset, .unset, .unset, .unset, .unset, .unset, .unset] [(.int (5 : Int32)), (.ref b970)]))
              have J171 : ∀ (x5 : Int32) (hx5 : x5 = own_bitp vbits 5), OGo p e below s (fun v h L => v = some (.int 1) ∧ Fr n0 L) 24 192 (T989.setTop (mkF m 171 #[.val (.int va), .val (.int vcnt), .val (.int vbits), .val (.int vown), .val (.int voth), .val (.int vfl), .val (.int vr1), .val (.int vs1), .val (.int vr2), .val (.int vs2), .val (.int vk), .val (.int vm), .val (.int x12), .val (.int x13), .val (.ref b970), .unset, .unset, .unset, .unset, .unset, .unset, .unset, .unset, .unset, .unset] [(.int x5), (.int (5 : Int32)), (.ref b970)])) := by
                intro x5 hx5
                show OGo p e below s _ _ _ (T989.setTop (mkF m 171 #[.val (.int va), .val (.int vcnt), .val (.int vbits), .val (.int vown), .val (.int voth), .val (.int vfl), .val (.int vr1), .val (.int vs1), .val (.int vr2), .val (.int vs2), .val (.int vk), .val (.int vm), .val (.int x12), .val (.int x13), .val (.ref b970), .unset, .unset, .unset, .unset, .unset, .unset, .unset, .unset, .unset, .unset] [(.int x5), (.int (5 : Int32)), (.ref b970)]))
                obtain ⟨T993, h993, X993, e993, W993, A993, st993⟩ := OAL.stZ Xh992 hx hZ e989 V989 (j := (5 : Int32)) (x := x5) (by decide) (by decide : 5 < 6) (Ls := #[.val (.int va), .val (.int vcnt), .val (.int vbits), .val (.int vown), .val (.int voth), .val (.int vfl), .val (.int vr1), .val (.int vs1), .val (.int vr2), .val (.int vs2), .val (.int vk), .val (.int vm), .val (.int x12), .val (.int x13), .val (.ref b970), .unset, .unset, .unset, .unset, .unset, .unset, .unset, .unset, .unset, .unset]) (rest := []) (hb hby at_171)
                have Z994 : n0 ≤ h993.size := Nat.le_trans Z990 (Nat.le_of_eq W993.size.symm)
                have N995 := Fr.snoc X993 Nh992 ge971
                obtain ⟨Lh996, Xh996, Nh996⟩ := own_hide X993 N995
                have V993 : OAL Z h993 b970 .boolean [(nar .boolean x0), (nar .boolean x1), (nar .boolean x2), (nar .boolean x3), (nar .boolean x4), (nar .boolean x5)] := A993
                refine OGo.on st993 ?_
                show OGo p e below s _ _ _ (T993.setTop (mkF m 172 #[.val (.int va), .val (.int vcnt), .val (.int vbits), .val (.int vown), .val (.int voth), .val (.int vfl), .val (.int vr1), .val (.int vs1), .val (.int vr2), .val (.int vs2), .val (.int vk), .val (.int vm), .val (.int x12), .val (.int x13), .val (.ref b970), .unset, .unset, .unset, .unset, .unset, .unset, .unset, .unset, .unset, .unset] []))
                have hn0 : nar .boolean x0 = x0 := by rcases own_b01 vbits 0 with z | z <;> rw [hx0, z] <;> rfl
                have hn1 : nar .boolean x1 = x1 := by rcases own_b01 vbits 1 with z | z <;> rw [hx1, z] <;> rfl
                have hn2 : nar .boolean x2 = x2 := by rcases own_b01 vbits 2 with z | z <;> rw [hx2, z] <;> rfl
                have hn3 : nar .boolean x3 = x3 := by rcases own_b01 vbits 3 with z | z <;> rw [hx3, z] <;> rfl
                have hn4 : nar .boolean x4 = x4 := by rcases own_b01 vbits 4 with z | z <;> rw [hx4, z] <;> rfl
                have hn5 : nar .boolean x5 = x5 := by rcases own_b01 vbits 5 with z | z <;> rw [hx5, z] <;> rfl
                have V997 : OAL Z h993 b970 .boolean [x0, x1, x2, x3, x4, x5] := by have q := V993; rw [hn0, hn1, hn2, hn3, hn4, hn5] at q; exact q
                have qci : OAt [x0, x1, x2, x3, x4, x5] ((vr1 * (3 : Int32)) + vs1) (own_bitp vbits ((vr1 * (3 : Int32)) + vs1)) := oat_cl hi hx0 hx1 hx2 hx3 hx4 hx5
                have qcj : OAt [x0, x1, x2, x3, x4, x5] ((vr2 * (3 : Int32)) + vs2) (own_bitp vbits ((vr2 * (3 : Int32)) + vs2)) := oat_cl hj hx0 hx1 hx2 hx3 hx4 hx5
                have J193 : ∀ (x15 : Int32) (hx15 : ¬ x15 = 0 ↔ (vr1 = vr2 ∧ vs1 = vs2)), OGo p e below s (fun v h L => v = some (.int 1) ∧ Fr n0 L) 24 192 (T993.setTop (mkF m 193 #[.val (.int va), .val (.int vcnt), .val (.int vbits), .val (.int vown), .val (.int voth), .val (.int vfl), .val (.int vr1), .val (.int vs1), .val (.int vr2), .val (.int vs2), .val (.int vk), .val (.int vm), .val (.int x12), .val (.int x13), .val (.ref b970), .val (.int x15), .unset, .unset, .unset, .unset, .unset, .unset, .unset, .unset, .unset] [])) := by
                  intro x15 hx15
                  show OGo p e below s _ _ _ (T993.setTop (mkF m 193 #[.val (.int va), .val (.int vcnt), .val (.int vbits), .val (.int vown), .val (.int voth), .val (.int vfl), .val (.int vr1), .val (.int vs1), .val (.int vr2), .val (.int vs2), .val (.int vk), .val (.int vm), .val (.int x12), .val (.int x13), .val (.ref b970), .val (.int x15), .unset, .unset, .unset, .unset, .unset, .unset, .unset, .unset, .unset] []))
                  have J213 : ∀ (x16 : Int32) (hx16 : x16 = own_bef vk x13 x15), OGo p e below s (fun v h L => v = some (.int 1) ∧ Fr n0 L) 24 192 (T993.setTop (mkF m 213 #[.val (.int va), .val (.int vcnt), .val (.int vbits), .val (.int vown), .val (.int voth), .val (.int vfl), .val (.int vr1), .val (.int vs1), .val (.int vr2), .val (.int vs2), .val (.int vk), .val (.int vm), .val (.int x12), .val (.int x13), .val (.ref b970), .val (.int x15), .val (.int x16), .unset, .unset, .unset, .unset, .unset, .unset, .unset, .unset] [])) := by
                    intro x16 hx16
                    show OGo p e below s _ _ _ (T993.setTop (mkF m 213 #[.val (.int va), .val (.int vcnt), .val (.int vbits), .val (.int vown), .val (.int voth), .val (.int vfl), .val (.int vr1), .val (.int vs1), .val (.int vr2), .val (.int vs2), .val (.int vk), .val (.int vm), .val (.int x12), .val (.int x13), .val (.ref b970), .val (.int x15), .val (.int x16), .unset, .unset, .unset, .unset, .unset, .unset, .unset, .unset] []))
                    refine OGo.on (fun t k => XS.iload Xh996.here hx rfl (hb hby at_213) rfl k) ?_
                    refine OGo.on (fun t k => XS.iload Xh996.here hx rfl (hb hby at_215) rfl k) ?_
                    refine OGo.on (fun t k => XS.iadd Xh996.here hx rfl (hb hby at_217) rfl k) ?_
                    refine OGo.on (fun t k => XS.istore Xh996.here hx rfl (hb hby at_218) rfl (l' := #[.val (.int va), .val (.int vcnt), .val (.int vbits), .val (.int vown), .val (.int voth), .val (.int vfl), .val (.int vr1), .val (.int vs1), .val (.int vr2), .val (.int vs2), .val (.int vk), .val (.int vm), .val (.int x12), .val (.int x13), .val (.ref b970), .val (.int x15), .val (.int x16), .val (.int (x16 + vm)), .unset, .unset, .unset, .unset, .unset, .unset, .unset]) rfl k) ?_
                    show OGo p e below s _ _ _ (T993.setTop (mkF m 220 #[.val (.int va), .val (.int vcnt), .val (.int vbits), .val (.int vown), .val (.int voth), .val (.int vfl), .val (.int vr1), .val (.int vs1), .val (.int vr2), .val (.int vs2), .val (.int vk), .val (.int vm), .val (.int x12), .val (.int x13), .val (.ref b970), .val (.int x15), .val (.int x16), .val (.int (x16 + vm)), .unset, .unset, .unset, .unset, .unset, .unset, .unset] []))
                    have J234 : ∀ (x18 : Int32), OGo p e below s (fun v h L => v = some (.int 1) ∧ Fr n0 L) 24 192 (T993.setTop (mkF m 234 #[.val (.int va), .val (.int vcnt), .val (.int vbits), .val (.int vown), .val (.int voth), .val (.int vfl), .val (.int vr1), .val (.int vs1), .val (.int vr2), .val (.int vs2), .val (.int vk), .val (.int vm), .val (.int x12), .val (.int x13), .val (.ref b970), .val (.int x15), .val (.int x16), .val (.int (x16 + vm)), .val (.int x18), .unset, .unset, .unset, .unset, .unset, .unset] [])) := by
                      intro x18
                      show OGo p e below s _ _ _ (T993.setTop (mkF m 234 #[.val (.int va), .val (.int vcnt), .val (.int vbits), .val (.int vown), .val (.int voth), .val (.int vfl), .val (.int vr1), .val (.int vs1), .val (.int vr2), .val (.int vs2), .val (.int vk), .val (.int vm), .val (.int x12), .val (.int x13), .val (.ref b970), .val (.int x15), .val (.int x16), .val (.int (x16 + vm)), .val (.int x18), .unset, .unset, .unset, .unset, .unset, .unset] []))
                      have J255 : ∀ (x19 : Int32) (hx19 : x19 = own_bitp vbits ((vr1 * (3 : Int32)) + vs1)), OGo p e below s (fun v h L => v = some (.int 1) ∧ Fr n0 L) 24 192 (T993.setTop (mkF m 255 #[.val (.int va), .val (.int vcnt), .val (.int vbits), .val (.int vown), .val (.int voth), .val (.int vfl), .val (.int vr1), .val (.int vs1), .val (.int vr2), .val (.int vs2), .val (.int vk), .val (.int vm), .val (.int x12), .val (.int x13), .val (.ref b970), .val (.int x15), .val (.int x16), .val (.int (x16 + vm)), .val (.int x18), .val (.int x19), .unset, .unset, .unset, .unset, .unset] [])) := by
                        intro x19 hx19
                        show OGo p e below s _ _ _ (T993.setTop (mkF m 255 #[.val (.int va), .val (.int vcnt), .val (.int vbits), .val (.int vown), .val (.int voth), .val (.int vfl), .val (.int vr1), .val (.int vs1), .val (.int vr2), .val (.int vs2), .val (.int vk), .val (.int vm), .val (.int x12), .val (.int x13), .val (.ref b970), .val (.int x15), .val (.int x16), .val (.int (x16 + vm)), .val (.int x18), .val (.int x19), .unset, .unset, .unset, .unset, .unset] []))
                        refine OGo.on (fun t k => XS.lconst Xh996.here hx rfl (hb hby at_255) k) ?_
                        refine OGo.on (fun t k => XS.lstore Xh996.here hx rfl (hb hby at_256) rfl (l' := #[.val (.int va), .val (.int vcnt), .val (.int vbits), .val (.int vown), .val (.int voth), .val (.int vfl), .val (.int vr1), .val (.int vs1), .val (.int vr2), .val (.int vs2), .val (.int vk), .val (.int vm), .val (.int x12), .val (.int x13), .val (.ref b970), .val (.int x15), .val (.int x16), .val (.int (x16 + vm)), .val (.int x18), .val (.int x19), .val (.long (1 : Int64)), .second, .unset, .unset, .unset]) rfl k) ?_
                        show OGo p e below s _ _ _ (T993.setTop (mkF m 258 #[.val (.int va), .val (.int vcnt), .val (.int vbits), .val (.int vown), .val (.int voth), .val (.int vfl), .val (.int vr1), .val (.int vs1), .val (.int vr2), .val (.int vs2), .val (.int vk), .val (.int vm), .val (.int x12), .val (.int x13), .val (.ref b970), .val (.int x15), .val (.int x16), .val (.int (x16 + vm)), .val (.int x18), .val (.int x19), .val (.long (1 : Int64)), .second, .unset, .unset, .unset] []))
                        have J285 : ∀ (x20 : Int64) (hx20 : x20 = own_w x12 x16 x19), OGo p e below s (fun v h L => v = some (.int 1) ∧ Fr n0 L) 24 192 (T993.setTop (mkF m 285 #[.val (.int va), .val (.int vcnt), .val (.int vbits), .val (.int vown), .val (.int voth), .val (.int vfl), .val (.int vr1), .val (.int vs1), .val (.int vr2), .val (.int vs2), .val (.int vk), .val (.int vm), .val (.int x12), .val (.int x13), .val (.ref b970), .val (.int x15), .val (.int x16), .val (.int (x16 + vm)), .val (.int x18), .val (.int x19), .val (.long x20), .second, .unset, .unset, .unset] [])) := by
                          intro x20 hx20
                          show OGo p e below s _ _ _ (T993.setTop (mkF m 285 #[.val (.int va), .val (.int vcnt), .val (.int vbits), .val (.int vown), .val (.int voth), .val (.int vfl), .val (.int vr1), .val (.int vs1), .val (.int vr2), .val (.int vs2), .val (.int vk), .val (.int vm), .val (.int x12), .val (.int x13), .val (.ref b970), .val (.int x15), .val (.int x16), .val (.int (x16 + vm)), .val (.int x18), .val (.int x19), .val (.long x20), .second, .unset, .unset, .unset] []))
                          have J314 : ∀ (x22 : Int64) (hx22 : x22 = own_e x20 (x16 + vm) x18 x19), OGo p e below s (fun v h L => v = some (.int 1) ∧ Fr n0 L) 24 192 (T993.setTop (mkF m 314 #[.val (.int va), .val (.int vcnt), .val (.int vbits), .val (.int vown), .val (.int voth), .val (.int vfl), .val (.int vr1), .val (.int vs1), .val (.int vr2), .val (.int vs2), .val (.int vk), .val (.int vm), .val (.int x12), .val (.int x13), .val (.ref b970), .val (.int x15), .val (.int x16), .val (.int (x16 + vm)), .val (.int x18), .val (.int x19), .val (.long x20), .second, .val (.long x22), .second, .unset] [])) := by
                            intro x22 hx22
                            show OGo p e below s _ _ _ (T993.setTop (mkF m 314 #[.val (.int va), .val (.int vcnt), .val (.int vbits), .val (.int vown), .val (.int voth), .val (.int vfl), .val (.int vr1), .val (.int vs1), .val (.int vr2), .val (.int vs2), .val (.int vk), .val (.int vm), .val (.int x12), .val (.int x13), .val (.ref b970), .val (.int x15), .val (.int x16), .val (.int (x16 + vm)), .val (.int x18), .val (.int x19), .val (.long x20), .second, .val (.long x22), .second, .unset] []))
                            obtain ⟨T998, h998, X998, e998, E998, A998, D998, -, st998⟩ := newO Xh996 hx hZ hown (hw _ (List.mem_of_getElem? (i := 2) rfl)) (hw _ (List.mem_of_getElem? (i := 3) rfl)) (hw _ (List.mem_of_getElem? (i := 4) rfl)) e993 (g := (mkF m 314 #[.val (.int va), .val (.int vcnt), .val (.int vbits), .val (.int vown), .val (.int voth), .val (.int vfl), .val (.int vr1), .val (.int vs1), .val (.int vr2), .val (.int vs2), .val (.int vk), .val (.int vm), .val (.int x12), .val (.int x13), .val (.ref b970), .val (.int x15), .val (.int x16), .val (.int (x16 + vm)), .val (.int x18), .val (.int x19), .val (.long x20), .second, .val (.long x22), .second, .unset] [])) rfl (hb hby at_314) (by decide) (by decide)
                            obtain ⟨b998, g998⟩ : ∃ z, z = h993.size := ⟨_, rfl⟩
                            rw [← g998] at A998 D998 st998
                            have ne999 : b970 ≠ b998 := Nat.ne_of_lt (Nat.lt_of_lt_of_le V997.lt (Nat.le_of_eq g998.symm))
                            have ge1000 : n0 ≤ b998 := Nat.le_trans Z994 (Nat.le_of_eq g998.symm)
                            have f1001 : OAL Z h998 b970 .boolean [x0, x1, x2, x3, x4, x5] := V997.ext E998
                            have Z1002 : n0 ≤ h998.size := Nat.le_trans Z994 E998.1
                            have f1003 : Fld Z h998 b998 "com/example/slotwright/slotwright/solver/Occupancy" "clashing" "[I" .null := D998 (Or.inl (hw _ (List.mem_of_getElem? (i := 13) rfl))) (ty := (.array .int)) (by decide)
                            have f1004 : Fld Z h998 b998 "com/example/slotwright/slotwright/solver/Occupancy" "slots" "I" (.int (0 : Int32)) := D998 (Or.inr (hw _ (List.mem_of_getElem? (i := 15) rfl))) (ty := .int) (by decide)
                            have f1005 : Fld Z h998 b998 "com/example/slotwright/slotwright/solver/Occupancy" "meetings" "[I" .null := D998 (Or.inr (hw _ (List.mem_of_getElem? (i := 22) rfl))) (ty := (.array .int)) (by decide)
                            have f1006 : Fld Z h998 b998 "com/example/slotwright/slotwright/solver/Occupancy" "closed" "[Z" .null := D998 (Or.inr (hw _ (List.mem_of_getElem? (i := 24) rfl))) (ty := (.array .boolean)) (by decide)
                            have f1007 : Fld Z h998 b998 "com/example/slotwright/slotwright/solver/Occupancy" "weights" "[I" .null := D998 (Or.inr (hw _ (List.mem_of_getElem? (i := 33) rfl))) (ty := (.array .int)) (by decide)
                            have f1008 : Fld Z h998 b998 "com/example/slotwright/slotwright/solver/Occupancy" "listed" "[Z" .null := D998 (Or.inr (hw _ (List.mem_of_getElem? (i := 35) rfl))) (ty := (.array .boolean)) (by decide)
                            have f1009 : Fld Z h998 b998 "com/example/slotwright/slotwright/solver/Occupancy" "weighted" "J" (.long (0 : Int64)) := D998 (Or.inl (hw _ (List.mem_of_getElem? (i := 47) rfl))) (ty := .long) (by decide)
                            have f1010 : Fld Z h998 b998 "com/example/slotwright/slotwright/solver/Occupancy" "clashingCount" "I" (.int (0 : Int32)) := D998 (Or.inl (hw _ (List.mem_of_getElem? (i := 49) rfl))) (ty := .int) (by decide)
                            refine OGo.on st998 ?_
                            show OGo p e below s _ _ _ (T998.setTop (mkF m 317 #[.val (.int va), .val (.int vcnt), .val (.int vbits), .val (.int vown), .val (.int voth), .val (.int vfl), .val (.int vr1), .val (.int vs1), .val (.int vr2), .val (.int vs2), .val (.int vk), .val (.int vm), .val (.int x12), .val (.int x13), .val (.ref b970), .val (.int x15), .val (.int x16), .val (.int (x16 + vm)), .val (.int x18), .val (.int x19), .val (.long x20), .second, .val (.long x22), .second, .unset] [(.ref b998)]))
                            refine OGo.on (fun t k => XS.dup X998.here hx rfl (hb hby at_317) rfl rfl k) ?_
                            refine OGo.on (fun t k => XS.iconst X998.here hx rfl (hb hby at_318) k) ?_
                            refine OGo.on (fun t k => XS.iconst X998.here hx rfl (hb hby at_319) k) ?_
                            refine OGo.on (fun t k => XS.aload X998.here hx rfl (hb hby at_320) rfl rfl k) ?_
                            show OGo p e below s _ _ _ (T998.setTop (mkF m 322 #[.val (.int va), .val (.int vcnt), .val (.int vbits), .val (.int vown), .val (.int voth), .val (.int vfl), .val (.int vr1), .val (.int vs1), .val (.int vr2), .val (.int vs2), .val (.int vk), .val (.int vm), .val (.int x12), .val (.int x13), .val (.ref b970), .val (.int x15), .val (.int x16), .val (.int (x16 + vm)), .val (.int x18), .val (.int x19), .val (.long x20), .second, .val (.long x22), .second, .unset] [(.ref b970), (.int (3 : Int32)), (.int (2 : Int32)), (.ref b998), (.ref b998)]))
                            obtain ⟨_, _, ⟨T1011, L1011, k1011, n1011⟩, -, X1011, ⟨Lc1011, hQ1011, l1011, y1011, z1011⟩, st1011⟩ := X998.specialBack hx (y := (⟨"com/example/slotwright/slotwright/solver/Occupancy", "<init>", "(II[Z)V"⟩ : MethodName)) rfl hown (mvT hZ (hw _ (List.mem_of_getElem? (i := 5) rfl))) (mvT hZ (hw _ (List.mem_of_getElem? (i := 6) rfl))) (mvT hZ (hw _ (List.mem_of_getElem? (i := 7) rfl))) (by decide) (backOf (W := 1) (own_minit l Z a0 hw [] b998 b970 [x0, x1, x2, x3, x4, x5] h998 n0 Z1002 ge1000 (Ne.symm ne999) f1001 A998 f1003 f1004 f1005 f1006 f1007 f1008 f1010 f1009) hZ (hw _ (List.mem_of_getElem? (i := 7) rfl)) (hw _ (List.mem_of_getElem? (i := 4) rfl)) (by decide) (by decide)) (g := (mkF m 322 #[.val (.int va), .val (.int vcnt), .val (.int vbits), .val (.int vown), .val (.int voth), .val (.int vfl), .val (.int vr1), .val (.int vs1), .val (.int vr2), .val (.int vs2), .val (.int vk), .val (.int vm), .val (.int x12), .val (.int x13), .val (.ref b970), .val (.int x15), .val (.int x16), .val (.int (x16 + vm)), .val (.int x18), .val (.int x19), .val (.long x20), .second, .val (.long x22), .second, .unset] [(.ref b970), (.int (3 : Int32)), (.int (2 : Int32)), (.ref b998), (.ref b998)])) rfl (by rw [hml]; rfl) (Steps.refl _) (a := b998) (argsL := [(.int (2 : Int32)), (.int (3 : Int32)), (.ref b970)]) (rest := [(.ref b998)]) (lenOf own_pd5 rfl) rfl (by show 2 * 0 + _ ≤ _; exact Nat.le_of_eq rfl) (hb hby at_322) (fun _ _ => ⟨rfl, e998, (by decide : 2 + 4 ≤ _), (by decide : 14 + 34 ≤ _)⟩)
                            dsimp only [Pt.U, Pt.locs, Pt.cells, Pt.slots] at X1011 l1011 y1011 z1011 st1011 hQ1011
                            subst l1011 y1011 z1011
                            obtain ⟨rfl, N1011q, Z1011, rm, rw, rl, rk, hD, O1011⟩ := hQ1011
                            have N1011 := Fr.app Nh996 N1011q
                            have eh1011 : T1011.heap = T1011.heap := rfl
                            obtain ⟨Lh1012, Xh1012, Nh1012⟩ := own_hide X1011 N1011
                            refine OGo.on (fun t k => st1011.trans k) ?_
                            show OGo p e below s _ _ _ (T1011.setTop (mkF m 325 #[.val (.int va), .val (.int vcnt), .val (.int vbits), .val (.int vown), .val (.int voth), .val (.int vfl), .val (.int vr1), .val (.int vs1), .val (.int vr2), .val (.int vs2), .val (.int vk), .val (.int vm), .val (.int x12), .val (.int x13), .val (.ref b970), .val (.int x15), .val (.int x16), .val (.int (x16 + vm)), .val (.int x18), .val (.int x19), .val (.long x20), .second, .val (.long x22), .second, .unset] [(.ref b998)]))
                            refine OGo.on (fun t k => XS.astore Xh1012.here hx rfl (hb hby at_325) rfl rfl (l' := #[.val (.int va), .val (.int vcnt), .val (.int vbits), .val (.int vown), .val (.int voth), .val (.int vfl), .val (.int vr1), .val (.int vs1), .val (.int vr2), .val (.int vs2), .val (.int vk), .val (.int vm), .val (.int x12), .val (.int x13), .val (.ref b970), .val (.int x15), .val (.int x16), .val (.int (x16 + vm)), .val (.int x18), .val (.int x19), .val (.long x20), .second, .val (.long x22), .second, .val (.ref b998)]) rfl k) ?_
                            show OGo p e below s _ _ _ (T1011.setTop (mkF m 327 #[.val (.int va), .val (.int vcnt), .val (.int vbits), .val (.int vown), .val (.int voth), .val (.int vfl), .val (.int vr1), .val (.int vs1), .val (.int vr2), .val (.int vs2), .val (.int vk), .val (.int vm), .val (.int x12), .val (.int x13), .val (.ref b970), .val (.int x15), .val (.int x16), .val (.int (x16 + vm)), .val (.int x18), .val (.int x19), .val (.long x20), .second, .val (.long x22), .second, .val (.ref b998)] []))
                            have qcx : OAt [x0, x1, x2, x3, x4, x5] ((vr1 * (3 : Int32)) + vs1) x19 := by rw [hx19]; exact qci
                            have J375 : ∀ (Tq1 : State) (Lq1 : List Loc) (hq1 : Heap) (Ma Lia Caa : List Int32) (cca ta : Int32) (Xq1 : Stand p l e room_1 s m #[(.int va), (.int vcnt), (.int vbits), (.int vown), (.int voth), (.int vfl)] below meth c Tq1 Lq1 6 48) (Nq1 : Fr n0 Lq1) (eq1 : Tq1.heap = hq1) (Zq1 : n0 ≤ hq1.size) (Oa : OCC Z hq1 b998 rm rw b970 rl rk Ma [(1 : Int32), (1 : Int32), (1 : Int32), (1 : Int32), (1 : Int32), (1 : Int32)] [x0, x1, x2, x3, x4, x5] Lia Caa cca) (hmi : OAt Ma ((vr1 * (3 : Int32)) + vs1) vk) (hmj : ((vr1 * (3 : Int32)) + vs1) ≠ ((vr2 * (3 : Int32)) + vs2) → OAt Ma ((vr2 * (3 : Int32)) + vs2) 0) (hli : OAt Lia ((vr1 * (3 : Int32)) + vs1) ta) (hlj : ((vr1 * (3 : Int32)) + vs1) ≠ ((vr2 * (3 : Int32)) + vs2) → OAt Lia ((vr2 * (3 : Int32)) + vs2) 0) (hca : Caa.length = 16) (hst : own_st ((vr1 * (3 : Int32)) + vs1) vk x19 cca ta Caa), OGo p e below s (fun v h L => v = some (.int 1) ∧ Fr n0 L) 24 192 (Tq1.setTop (mkF m 375 #[.val (.int va), .val (.int vcnt), .val (.int vbits), .val (.int vown), .val (.int voth), .val (.int vfl), .val (.int vr1), .val (.int vs1), .val (.int vr2), .val (.int vs2), .val (.int vk), .val (.int vm), .val (.int x12), .val (.int x13), .val (.ref b970), .val (.int x15), .val (.int x16), .val (.int (x16 + vm)), .val (.int x18), .val (.int x19), .val (.long x20), .second, .val (.long x22), .second, .val (.ref b998)] [])) := by
                              intro Tq1 Lq1 hq1 Ma Lia Caa cca ta Xq1 Nq1 eq1 Zq1 Oa hmi hmj hli hlj hca hst
                              show OGo p e below s _ _ _ (Tq1.setTop (mkF m 375 #[.val (.int va), .val (.int vcnt), .val (.int vbits), .val (.int vown), .val (.int voth), .val (.int vfl), .val (.int vr1), .val (.int vs1), .val (.int vr2), .val (.int vs2), .val (.int vk), .val (.int vm), .val (.int x12), .val (.int x13), .val (.ref b970), .val (.int x15), .val (.int x16), .val (.int (x16 + vm)), .val (.int x18), .val (.int x19), .val (.long x20), .second, .val (.long x22), .second, .val (.ref b998)] []))
                              have h45 := in_45 hk
                              have J390 : ∀ (Tq2 : State) (Lq2 : List Loc) (hq2 : Heap) (Mb Lib Cab : List Int32) (ccb tb : Int32) (Xq2 : Stand p l e room_1 s m #[(.int va), (.int vcnt), (.int vbits), (.int vown), (.int voth), (.int vfl)] below meth c Tq2 Lq2 6 48) (Nq2 : Fr n0 Lq2) (eq2 : Tq2.heap = hq2) (Zq2 : n0 ≤ hq2.size) (Ob : OCC Z hq2 b998 rm rw b970 rl rk Mb [(1 : Int32), (1 : Int32), (1 : Int32), (1 : Int32), (1 : Int32), (1 : Int32)] [x0, x1, x2, x3, x4, x5] Lib Cab ccb) (hbN : InN 5 x16) (hmb : OAt Mb ((vr1 * (3 : Int32)) + vs1) x16) (hlb : OAt Lib ((vr1 * (3 : Int32)) + vs1) tb) (hcb : Cab.length = 16) (hes : own_es ((vr1 * (3 : Int32)) + vs1) x16 x19 ccb Mb [x0, x1, x2, x3, x4, x5] Cab), OGo p e below s (fun v h L => v = some (.int 1) ∧ Fr n0 L) 24 192 (Tq2.setTop (mkF m 390 #[.val (.int va), .val (.int vcnt), .val (.int vbits), .val (.int vown), .val (.int voth), .val (.int vfl), .val (.int vr1), .val (.int vs1), .val (.int vr2), .val (.int vs2), .val (.int vk), .val (.int vm), .val (.int x12), .val (.int x13), .val (.ref b970), .val (.int x15), .val (.int x16), .val (.int (x16 + vm)), .val (.int x18), .val (.int x19), .val (.long x20), .second, .val (.long x22), .second, .val (.ref b998)] [])) := by
                                intro Tq2 Lq2 hq2 Mb Lib Cab ccb tb Xq2 Nq2 eq2 Zq2 Ob hbN hmb hlb hcb hes
                                show OGo p e below s _ _ _ (Tq2.setTop (mkF m 390 #[.val (.int va), .val (.int vcnt), .val (.int vbits), .val (.int vown), .val (.int voth), .val (.int vfl), .val (.int vr1), .val (.int vs1), .val (.int vr2), .val (.int vs2), .val (.int vk), .val (.int vm), .val (.int x12), .val (.int x13), .val (.ref b970), .val (.int x15), .val (.int x16), .val (.int (x16 + vm)), .val (.int x18), .val (.int x19), .val (.long x20), .second, .val (.long x22), .second, .val (.ref b998)] []))
                                have J400 : ∀ (Tq3 : State) (Lq3 : List Loc) (hq3 : Heap) (Mc Wc Lic Cac : List Int32) (ccc tc xw : Int32) (Xq3 : Stand p l e room_1 s m #[(.int va), (.int vcnt), (.int vbits), (.int vown), (.int voth), (.int vfl)] below meth c Tq3 Lq3 6 48) (Nq3 : Fr n0 Lq3) (eq3 : Tq3.heap = hq3) (Zq3 : n0 ≤ hq3.size) (Oc : OCC Z hq3 b998 rm rw b970 rl rk Mc Wc [x0, x1, x2, x3, x4, x5] Lic Cac ccc) (hmc : OAt Mc ((vr1 * (3 : Int32)) + vs1) x16) (qwc : OAt Wc ((vr1 * (3 : Int32)) + vs1) xw) (hwc : xw.toInt64 = own_w x12 x16 x19) (hlc : OAt Lic ((vr1 * (3 : Int32)) + vs1) tc) (hcac : Cac.length = 16) (hccc : own_ccok ccc), OGo p e below s (fun v h L => v = some (.int 1) ∧ Fr n0 L) 24 192 (Tq3.setTop (mkF m 400 #[.val (.int va), .val (.int vcnt), .val (.int vbits), .val (.int vown), .val (.int voth), .val (.int vfl), .val (.int vr1), .val (.int vs1), .val (.int vr2), .val (.int vs2), .val (.int vk), .val (.int vm), .val (.int x12), .val (.int x13), .val (.ref b970), .val (.int x15), .val (.int x16), .val (.int (x16 + vm)), .val (.int x18), .val (.int x19), .val (.long x20), .second, .val (.long x22), .second, .val (.ref b998)] [])) := by
                                  intro Tq3 Lq3 hq3 Mc Wc Lic Cac ccc tc xw Xq3 Nq3 eq3 Zq3 Oc hmc qwc hwc hlc hcac hccc
                                  show OGo p e below s _ _ _ (Tq3.setTop (mkF m 400 #[.val (.int va), .val (.int vcnt), .val (.int vbits), .val (.int vown), .val (.int voth), .val (.int vfl), .val (.int vr1), .val (.int vs1), .val (.int vr2), .val (.int vs2), .val (.int vk), .val (.int vm), .val (.int x12), .val (.int x13), .val (.ref b970), .val (.int x15), .val (.int x16), .val (.int (x16 + vm)), .val (.int x18), .val (.int x19), .val (.long x20), .second, .val (.long x22), .second, .val (.ref b998)] []))
                                  refine OGo.on (fun t k => XS.iload Xq3.here hx rfl (hb hby at_400) rfl k) ?_
                                  refine OGo.on (fun t k => XS.iconst Xq3.here hx rfl (hb hby at_402) k) ?_
                                  show OGo p e below s _ _ _ (Tq3.setTop (mkF m 403 #[.val (.int va), .val (.int vcnt), .val (.int vbits), .val (.int vown), .val (.int voth), .val (.int vfl), .val (.int vr1), .val (.int vs1), .val (.int vr2), .val (.int vs2), .val (.int vk), .val (.int vm), .val (.int x12), .val (.int x13), .val (.ref b970), .val (.int x15), .val (.int x16), .val (.int (x16 + vm)), .val (.int x18), .val (.int x19), .val (.long x20), .second, .val (.long x22), .second, .val (.ref b998)] [(.int (1 : Int32)), (.int vm)]))
                                  by_cases hc1013 : vm = (1 : Int32)
                                  · refine OGo.on (fun t k => XS.icmpNo Xq3.here hx rfl (hb hby at_403) rfl (teq hc1013).2 k) ?_
                                    show OGo p e below s _ _ _ (Tq3.setTop (mkF m 406 #[.val (.int va), .val (.int vcnt), .val (.int vbits), .val (.int vown), .val (.int voth), .val (.int vfl), .val (.int vr1), .val (.int vs1), .val (.int vr2), .val (.int vs2), .val (.int vk), .val (.int vm), .val (.int x12), .val (.int x13), .val (.ref b970), .val (.int x15), .val (.int x16), .val (.int (x16 + vm)), .val (.int x18), .val (.int x19), .val (.long x20), .second, .val (.long x22), .second, .val (.ref b998)] []))
                                    by_cases hll : 0 < own_cl xw (x16 + 1) 1 x19 ∧ tc = 0
                                    · have hdum := hll
                                      refine OGo.on (fun t k => XS.aload Xq3.here hx rfl (hb hby at_406) rfl rfl k) ?_
                                      refine OGo.on (fun t k => XS.iload Xq3.here hx rfl (hb hby at_408) rfl k) ?_
                                      refine OGo.on (fun t k => XS.iload Xq3.here hx rfl (hb hby at_410) rfl k) ?_
                                      show OGo p e below s _ _ _ (Tq3.setTop (mkF m 412 #[.val (.int va), .val (.int vcnt), .val (.int vbits), .val (.int vown), .val (.int voth), .val (.int vfl), .val (.int vr1), .val (.int vs1), .val (.int vr2), .val (.int vs2), .val (.int vk), .val (.int vm), .val (.int x12), .val (.int x13), .val (.ref b970), .val (.int x15), .val (.int x16), .val (.int (x16 + vm)), .val (.int x18), .val (.int x19), .val (.long x20), .second, .val (.long x22), .second, .val (.ref b998)] [(.int vs1), (.int vr1), (.ref b998)]))
                                      have E1014 := Oc.1
                                      obtain ⟨cq1014, kq1014, q1014a, q1014b, q1014c⟩ := isOf hZ eq3 E1014
                                      obtain ⟨_, _, ⟨T1014, L1014, k1014, n1014⟩, -, X1014, ⟨Lc1014, hQ1014, l1014, y1014, z1014⟩, st1014⟩ := Xq3.virtualBack hx (y := (⟨"com/example/slotwright/slotwright/solver/Occupancy", "add", "(II)I"⟩ : MethodName)) (z := (⟨"com/example/slotwright/slotwright/solver/Occupancy", "add", "(II)I"⟩ : MethodName)) hown (mvT hZ (hw _ (List.mem_of_getElem? (i := 36) rfl))) (mvT hZ (hw _ (List.mem_of_getElem? (i := 37) rfl))) (notFace_of_selects (args := #[]) (mvT hZ (hw _ (List.mem_of_getElem? (i := 39) rfl)))) (mvT hZ (hw _ (List.mem_of_getElem? (i := 39) rfl))) (mvT hZ (hw _ (List.mem_of_getElem? (i := 38) rfl))) (by decide) (backOf (W := 0) (own_addA l Z a0 hw [] b998 rm rw b970 rl rk Mc Wc [x0, x1, x2, x3, x4, x5] Lic Cac ccc vr1 vs1 xw x16 x19 tc hq3 n0 Zq3 hD Oc qwc hmc qcx hlc hll.1 hll.2 hcac hccc.1 hccc.2.1 hccc.2.2) hZ (hw _ (List.mem_of_getElem? (i := 40) rfl)) (hw _ (List.mem_of_getElem? (i := 4) rfl)) (by decide) (by decide)) q1014a q1014c (g := (mkF m 412 #[.val (.int va), .val (.int vcnt), .val (.int vbits), .val (.int vown), .val (.int voth), .val (.int vfl), .val (.int vr1), .val (.int vs1), .val (.int vr2), .val (.int vs2), .val (.int vk), .val (.int vm), .val (.int x12), .val (.int x13), .val (.ref b970), .val (.int x15), .val (.int x16), .val (.int (x16 + vm)), .val (.int x18), .val (.int x19), .val (.long x20), .second, .val (.long x22), .second, .val (.ref b998)] [(.int vs1), (.int vr1), (.ref b998)])) rfl (by rw [hml]; rfl) (Steps.refl _) (argsL := [(.int vr1), (.int vs1)]) (rest := []) (lenOf own_pd1 rfl) rfl (by show 2 * 0 + _ ≤ _; exact Nat.le_of_eq rfl) (hb hby at_412) (fun _ _ => ⟨rfl, eq3, (by decide : 6 + 0 ≤ _), (by decide : 48 + 0 ≤ _)⟩)
                                      dsimp only [Pt.U, Pt.locs, Pt.cells, Pt.slots] at X1014 l1014 y1014 z1014 st1014 hQ1014
                                      subst l1014 y1014 z1014
                                      obtain ⟨⟨rv1014, rfl⟩, N1014q, Z1014, O1014'⟩ := hQ1014
                                      have N1014 := Fr.app Nq3 N1014q
                                      have eh1014 : T1014.heap = T1014.heap := rfl
                                      have O1014 : OCC Z T1014.heap b998 rm rw b970 rl rk (Mc.set ((vr1 * (3 : Int32)) + vs1).toNatClampNeg (x16 + 1)) Wc [x0, x1, x2, x3, x4, x5] (Lic.set ((vr1 * (3 : Int32)) + vs1).toNatClampNeg 1) (Cac.set ccc.toNatClampNeg ((vr1 * (3 : Int32)) + vs1)) (ccc + 1) := O1014'
                                      obtain ⟨Lh1015, Xh1015, Nh1015⟩ := own_hide X1014 N1014
                                      refine OGo.on (fun t k => st1014.trans k) ?_
                                      show OGo p e below s _ _ _ (T1014.setTop (mkF m 415 #[.val (.int va), .val (.int vcnt), .val (.int vbits), .val (.int vown), .val (.int voth), .val (.int vfl), .val (.int vr1), .val (.int vs1), .val (.int vr2), .val (.int vs2), .val (.int vk), .val (.int vm), .val (.int x12), .val (.int x13), .val (.ref b970), .val (.int x15), .val (.int x16), .val (.int (x16 + vm)), .val (.int x18), .val (.int x19), .val (.long x20), .second, .val (.long x22), .second, .val (.ref b998)] [(.int rv1014)]))
                                      refine OGo.on (fun t k => XS.pop Xh1015.here hx rfl (hb hby at_415) rfl rfl k) ?_
                                      show OGo p e below s _ _ _ (T1014.setTop (mkF m 416 #[.val (.int va), .val (.int vcnt), .val (.int vbits), .val (.int vown), .val (.int voth), .val (.int vfl), .val (.int vr1), .val (.int vs1), .val (.int vr2), .val (.int vs2), .val (.int vk), .val (.int vm), .val (.int x12), .val (.int x13), .val (.ref b970), .val (.int x15), .val (.int x16), .val (.int (x16 + vm)), .val (.int x18), .val (.int x19), .val (.long x20), .second, .val (.long x22), .second, .val (.ref b998)] []))
                                      refine OGo.on (fun t k => XS.aload Xh1015.here hx rfl (hb hby at_416) rfl rfl k) ?_
                                      refine OGo.on (fun t k => XS.iload Xh1015.here hx rfl (hb hby at_418) rfl k) ?_
                                      refine OGo.on (fun t k => XS.iload Xh1015.here hx rfl (hb hby at_420) rfl k) ?_
                                      refine OGo.on (fun t k => XS.iload Xh1015.here hx rfl (hb hby at_422) rfl k) ?_
                                      show OGo p e below s _ _ _ (T1014.setTop (mkF m 424 #[.val (.int va), .val (.int vcnt), .val (.int vbits), .val (.int vown), .val (.int voth), .val (.int vfl), .val (.int vr1), .val (.int vs1), .val (.int vr2), .val (.int vs2), .val (.int vk), .val (.int vm), .val (.int x12), .val (.int x13), .val (.ref b970), .val (.int x15), .val (.int x16), .val (.int (x16 + vm)), .val (.int x18), .val (.int x19), .val (.long x20), .second, .val (.long x22), .second, .val (.ref b998)] [(.int x18), (.int vs1), (.int vr1), (.ref b998)]))
                                      have E1016 := O1014.1
                                      obtain ⟨cq1016, kq1016, q1016a, q1016b, q1016c⟩ := isOf hZ eh1014 E1016
                                      obtain ⟨_, _, ⟨T1016, L1016, k1016, n1016⟩, -, X1016, ⟨Lc1016, hQ1016, l1016, y1016, z1016⟩, st1016⟩ := Xh1015.virtualBack hx (y := (⟨"com/example/slotwright/slotwright/solver/Occupancy", "clashes", "(III)J"⟩ : MethodName)) (z := (⟨"com/example/slotwright/slotwright/solver/Occupancy", "clashes", "(III)J"⟩ : MethodName)) hown (mvT hZ (hw _ (List.mem_of_getElem? (i := 59) rfl))) (mvT hZ (hw _ (List.mem_of_getElem? (i := 42) rfl))) (notFace_of_selects (args := #[]) (mvT hZ (hw _ (List.mem_of_getElem? (i := 44) rfl)))) (mvT hZ (hw _ (List.mem_of_getElem? (i := 44) rfl))) (mvT hZ (hw _ (List.mem_of_getElem? (i := 43) rfl))) (by decide) (backOf (W := 0) (own_mcl l Z a0 hw [] b998 rm rw b970 rl rk (Mc.set ((vr1 * (3 : Int32)) + vs1).toNatClampNeg (x16 + 1)) Wc [x0, x1, x2, x3, x4, x5] (Lic.set ((vr1 * (3 : Int32)) + vs1).toNatClampNeg 1) (Cac.set ccc.toNatClampNeg ((vr1 * (3 : Int32)) + vs1)) (ccc + 1) vr1 vs1 x18 xw (x16 + 1) x19 T1014.heap n0 Z1014 hD O1014 qwc (oat_same hmc _) qcx) hZ (hw _ (List.mem_of_getElem? (i := 45) rfl)) (hw _ (List.mem_of_getElem? (i := 4) rfl)) (by decide) (by decide)) q1016a q1016c (g := (mkF m 424 #[.val (.int va), .val (.int vcnt), .val (.int vbits), .val (.int vown), .val (.int voth), .val (.int vfl), .val (.int vr1), .val (.int vs1), .val (.int vr2), .val (.int vs2), .val (.int vk), .val (.int vm), .val (.int x12), .val (.int x13), .val (.ref b970), .val (.int x15), .val (.int x16), .val (.int (x16 + vm)), .val (.int x18), .val (.int x19), .val (.long x20), .second, .val (.long x22), .second, .val (.ref b998)] [(.int x18), (.int vs1), (.int vr1), (.ref b998)])) rfl (by rw [hml]; rfl) (Steps.refl _) (argsL := [(.int vr1), (.int vs1), (.int x18)]) (rest := []) (lenOf own_pd0 rfl) rfl (by show 2 * 0 + _ ≤ _; exact Nat.le_of_eq rfl) (hb hby at_424) (fun _ _ => ⟨rfl, eh1014, (by decide : 6 + 0 ≤ _), (by decide : 48 + 0 ≤ _)⟩)
                                      dsimp only [Pt.U, Pt.locs, Pt.cells, Pt.slots] at X1016 l1016 y1016 z1016 st1016 hQ1016
                                      subst l1016 y1016 z1016
                                      obtain ⟨rfl, N1016q, e1016⟩ := hQ1016
                                      have N1016 := Fr.app Nh1015 N1016q
                                      obtain ⟨Lh1017, Xh1017, Nh1017⟩ := own_hide X1016 N1016
                                      refine OGo.on (fun t k => st1016.trans k) ?_
                                      show OGo p e below s _ _ _ (T1016.setTop (mkF m 427 #[.val (.int va), .val (.int vcnt), .val (.int vbits), .val (.int vown), .val (.int voth), .val (.int vfl), .val (.int vr1), .val (.int vs1), .val (.int vr2), .val (.int vs2), .val (.int vk), .val (.int vm), .val (.int x12), .val (.int x13), .val (.ref b970), .val (.int x15), .val (.int x16), .val (.int (x16 + vm)), .val (.int x18), .val (.int x19), .val (.long x20), .second, .val (.long x22), .second, .val (.ref b998)] [(.long (own_cl xw (x16 + 1) x18 x19))]))
                                      refine OGo.on (fun t k => XS.lload Xh1017.here hx rfl (hb hby at_427) rfl k) ?_
                                      refine OGo.on (fun t k => XS.lcmp Xh1017.here hx rfl (hb hby at_429) rfl k) ?_
                                      show OGo p e below s _ _ _ (T1016.setTop (mkF m 430 #[.val (.int va), .val (.int vcnt), .val (.int vbits), .val (.int vown), .val (.int voth), .val (.int vfl), .val (.int vr1), .val (.int vs1), .val (.int vr2), .val (.int vs2), .val (.int vk), .val (.int vm), .val (.int x12), .val (.int x13), .val (.ref b970), .val (.int x15), .val (.int x16), .val (.int (x16 + vm)), .val (.int x18), .val (.int x19), .val (.long x20), .second, .val (.long x22), .second, .val (.ref b998)] [(.int (lcmpW (own_cl xw (x16 + 1) x18 x19) x22))]))
                                      refine OGo.on (fun t k => XS.ifNo Xh1017.here hx rfl (hb hby at_430) rfl (lc_teq (by rw [hx22, hx20]; exact own_fin1 hwc (by rw [hc1013]))).2 k) ?_
                                      show OGo p e below s _ _ _ (T1016.setTop (mkF m 433 #[.val (.int va), .val (.int vcnt), .val (.int vbits), .val (.int vown), .val (.int voth), .val (.int vfl), .val (.int vr1), .val (.int vs1), .val (.int vr2), .val (.int vs2), .val (.int vk), .val (.int vm), .val (.int x12), .val (.int x13), .val (.ref b970), .val (.int x15), .val (.int x16), .val (.int (x16 + vm)), .val (.int x18), .val (.int x19), .val (.long x20), .second, .val (.long x22), .second, .val (.ref b998)] []))
                                      refine OGo.on (fun t k => XS.iconst Xh1017.here hx rfl (hb hby at_433) k) ?_
                                      refine OGo.on (fun t k => XS.goto Xh1017.here hx rfl (pc0 := 434) (pc' := 438) rfl (hb hby at_434) (by decide) (by decide) k) ?_
                                      show OGo p e below s _ _ _ (T1016.setTop (mkF m 438 #[.val (.int va), .val (.int vcnt), .val (.int vbits), .val (.int vown), .val (.int voth), .val (.int vfl), .val (.int vr1), .val (.int vs1), .val (.int vr2), .val (.int vs2), .val (.int vk), .val (.int vm), .val (.int x12), .val (.int x13), .val (.ref b970), .val (.int x15), .val (.int x16), .val (.int (x16 + vm)), .val (.int x18), .val (.int x19), .val (.long x20), .second, .val (.long x22), .second, .val (.ref b998)] [(.int (1 : Int32))]))
                                      exact OGo.retN Xh1017 hx (t := .boolean) hret hlk (by simp) (hb hby at_438) ⟨rfl, Nh1017⟩ (by decide) (by decide)
                                    · have hdum := hll
                                      refine OGo.on (fun t k => XS.aload Xq3.here hx rfl (hb hby at_406) rfl rfl k) ?_
                                      refine OGo.on (fun t k => XS.iload Xq3.here hx rfl (hb hby at_408) rfl k) ?_
                                      refine OGo.on (fun t k => XS.iload Xq3.here hx rfl (hb hby at_410) rfl k) ?_
                                      show OGo p e below s _ _ _ (Tq3.setTop (mkF m 412 #[.val (.int va), .val (.int vcnt), .val (.int vbits), .val (.int vown), .val (.int voth), .val (.int vfl), .val (.int vr1), .val (.int vs1), .val (.int vr2), .val (.int vs2), .val (.int vk), .val (.int vm), .val (.int x12), .val (.int x13), .val (.ref b970), .val (.int x15), .val (.int x16), .val (.int (x16 + vm)), .val (.int x18), .val (.int x19), .val (.long x20), .second, .val (.long x22), .second, .val (.ref b998)] [(.int vs1), (.int vr1), (.ref b998)]))
                                      have E1018 := Oc.1
                                      obtain ⟨cq1018, kq1018, q1018a, q1018b, q1018c⟩ := isOf hZ eq3 E1018
                                      obtain ⟨_, _, ⟨T1018, L1018, k1018, n1018⟩, -, X1018, ⟨Lc1018, hQ1018, l1018, y1018, z1018⟩, st1018⟩ := Xq3.virtualBack hx (y := (⟨"com/example/slotwright/slotwright/solver/Occupancy", "add", "(II)I"⟩ : MethodName)) (z := (⟨"com/example/slotwright/slotwright/solver/Occupancy", "add", "(II)I"⟩ : MethodName)) hown (mvT hZ (hw _ (List.mem_of_getElem? (i := 36) rfl))) (mvT hZ (hw _ (List.mem_of_getElem? (i := 37) rfl))) (notFace_of_selects (args := #[]) (mvT hZ (hw _ (List.mem_of_getElem? (i := 39) rfl)))) (mvT hZ (hw _ (List.mem_of_getElem? (i := 39) rfl))) (mvT hZ (hw _ (List.mem_of_getElem? (i := 38) rfl))) (by decide) (backOf (W := 0) (own_addB l Z a0 hw [] b998 rm rw b970 rl rk Mc Wc [x0, x1, x2, x3, x4, x5] Lic Cac ccc vr1 vs1 xw x16 x19 tc hq3 n0 Zq3 hD Oc qwc hmc qcx hlc (own_nb hll)) hZ (hw _ (List.mem_of_getElem? (i := 40) rfl)) (hw _ (List.mem_of_getElem? (i := 4) rfl)) (by decide) (by decide)) q1018a q1018c (g := (mkF m 412 #[.val (.int va), .val (.int vcnt), .val (.int vbits), .val (.int vown), .val (.int voth), .val (.int vfl), .val (.int vr1), .val (.int vs1), .val (.int vr2), .val (.int vs2), .val (.int vk), .val (.int vm), .val (.int x12), .val (.int x13), .val (.ref b970), .val (.int x15), .val (.int x16), .val (.int (x16 + vm)), .val (.int x18), .val (.int x19), .val (.long x20), .second, .val (.long x22), .second, .val (.ref b998)] [(.int vs1), (.int vr1), (.ref b998)])) rfl (by rw [hml]; rfl) (Steps.refl _) (argsL := [(.int vr1), (.int vs1)]) (rest := []) (lenOf own_pd1 rfl) rfl (by show 2 * 0 + _ ≤ _; exact Nat.le_of_eq rfl) (hb hby at_412) (fun _ _ => ⟨rfl, eq3, (by decide : 6 + 0 ≤ _), (by decide : 48 + 0 ≤ _)⟩)
                                      dsimp only [Pt.U, Pt.locs, Pt.cells, Pt.slots] at X1018 l1018 y1018 z1018 st1018 hQ1018
                                      subst l1018 y1018 z1018
                                      obtain ⟨⟨rv1018, rfl⟩, N1018q, Z1018, O1018'⟩ := hQ1018
                                      have N1018 := Fr.app Nq3 N1018q
                                      have eh1018 : T1018.heap = T1018.heap := rfl
                                      have O1018 : OCC Z T1018.heap b998 rm rw b970 rl rk (Mc.set ((vr1 * (3 : Int32)) + vs1).toNatClampNeg (x16 + 1)) Wc [x0, x1, x2, x3, x4, x5] Lic Cac ccc := O1018'
                                      obtain ⟨Lh1019, Xh1019, Nh1019⟩ := own_hide X1018 N1018
                                      refine OGo.on (fun t k => st1018.trans k) ?_
                                      show OGo p e below s _ _ _ (T1018.setTop (mkF m 415 #[.val (.int va), .val (.int vcnt), .val (.int vbits), .val (.int vown), .val (.int voth), .val (.int vfl), .val (.int vr1), .val (.int vs1), .val (.int vr2), .val (.int vs2), .val (.int vk), .val (.int vm), .val (.int x12), .val (.int x13), .val (.ref b970), .val (.int x15), .val (.int x16), .val (.int (x16 + vm)), .val (.int x18), .val (.int x19), .val (.long x20), .second, .val (.long x22), .second, .val (.ref b998)] [(.int rv1018)]))
                                      refine OGo.on (fun t k => XS.pop Xh1019.here hx rfl (hb hby at_415) rfl rfl k) ?_
                                      show OGo p e below s _ _ _ (T1018.setTop (mkF m 416 #[.val (.int va), .val (.int vcnt), .val (.int vbits), .val (.int vown), .val (.int voth), .val (.int vfl), .val (.int vr1), .val (.int vs1), .val (.int vr2), .val (.int vs2), .val (.int vk), .val (.int vm), .val (.int x12), .val (.int x13), .val (.ref b970), .val (.int x15), .val (.int x16), .val (.int (x16 + vm)), .val (.int x18), .val (.int x19), .val (.long x20), .second, .val (.long x22), .second, .val (.ref b998)] []))
                                      refine OGo.on (fun t k => XS.aload Xh1019.here hx rfl (hb hby at_416) rfl rfl k) ?_
                                      refine OGo.on (fun t k => XS.iload Xh1019.here hx rfl (hb hby at_418) rfl k) ?_
                                      refine OGo.on (fun t k => XS.iload Xh1019.here hx rfl (hb hby at_420) rfl k) ?_
                                      refine OGo.on (fun t k => XS.iload Xh1019.here hx rfl (hb hby at_422) rfl k) ?_
                                      show OGo p e below s _ _ _ (T1018.setTop (mkF m 424 #[.val (.int va), .val (.int vcnt), .val (.int vbits), .val (.int vown), .val (.int voth), .val (.int vfl), .val (.int vr1), .val (.int vs1), .val (.int vr2), .val (.int vs2), .val (.int vk), .val (.int vm), .val (.int x12), .val (.int x13), .val (.ref b970), .val (.int x15), .val (.int x16), .val (.int (x16 + vm)), .val (.int x18), .val (.int x19), .val (.long x20), .second, .val (.long x22), .second, .val (.ref b998)] [(.int x18), (.int vs1), (.int vr1), (.ref b998)]))
                                      have E1020 := O1018.1
                                      obtain ⟨cq1020, kq1020, q1020a, q1020b, q1020c⟩ := isOf hZ eh1018 E1020
                                      obtain ⟨_, _, ⟨T1020, L1020, k1020, n1020⟩, -, X1020, ⟨Lc1020, hQ1020, l1020, y1020, z1020⟩, st1020⟩ := Xh1019.virtualBack hx (y := (⟨"com/example/slotwright/slotwright/solver/Occupancy", "clashes", "(III)J"⟩ : MethodName)) (z := (⟨"com/example/slotwright/slotwright/solver/Occupancy", "clashes", "(III)J"⟩ : MethodName)) hown (mvT hZ (hw _ (List.mem_of_getElem? (i := 59) rfl))) (mvT hZ (hw _ (List.mem_of_getElem? (i := 42) rfl))) (notFace_of_selects (args := #[]) (mvT hZ (hw _ (List.mem_of_getElem? (i := 44) rfl)))) (mvT hZ (hw _ (List.mem_of_getElem? (i := 44) rfl))) (mvT hZ (hw _ (List.mem_of_getElem? (i := 43) rfl))) (by decide) (backOf (W := 0) (own_mcl l Z a0 hw [] b998 rm rw b970 rl rk (Mc.set ((vr1 * (3 : Int32)) + vs1).toNatClampNeg (x16 + 1)) Wc [x0, x1, x2, x3, x4, x5] Lic Cac ccc vr1 vs1 x18 xw (x16 + 1) x19 T1018.heap n0 Z1018 hD O1018 qwc (oat_same hmc _) qcx) hZ (hw _ (List.mem_of_getElem? (i := 45) rfl)) (hw _ (List.mem_of_getElem? (i := 4) rfl)) (by decide) (by decide)) q1020a q1020c (g := (mkF m 424 #[.val (.int va), .val (.int vcnt), .val (.int vbits), .val (.int vown), .val (.int voth), .val (.int vfl), .val (.int vr1), .val (.int vs1), .val (.int vr2), .val (.int vs2), .val (.int vk), .val (.int vm), .val (.int x12), .val (.int x13), .val (.ref b970), .val (.int x15), .val (.int x16), .val (.int (x16 + vm)), .val (.int x18), .val (.int x19), .val (.long x20), .second, .val (.long x22), .second, .val (.ref b998)] [(.int x18), (.int vs1), (.int vr1), (.ref b998)])) rfl (by rw [hml]; rfl) (Steps.refl _) (argsL := [(.int vr1), (.int vs1), (.int x18)]) (rest := []) (lenOf own_pd0 rfl) rfl (by show 2 * 0 + _ ≤ _; exact Nat.le_of_eq rfl) (hb hby at_424) (fun _ _ => ⟨rfl, eh1018, (by decide : 6 + 0 ≤ _), (by decide : 48 + 0 ≤ _)⟩)
                                      dsimp only [Pt.U, Pt.locs, Pt.cells, Pt.slots] at X1020 l1020 y1020 z1020 st1020 hQ1020
                                      subst l1020 y1020 z1020
                                      obtain ⟨rfl, N1020q, e1020⟩ := hQ1020
                                      have N1020 := Fr.app Nh1019 N1020q
                                      obtain ⟨Lh1021, Xh1021, Nh1021⟩ := own_hide X1020 N1020
                                      refine OGo.on (fun t k => st1020.trans k) ?_
                                      show OGo p e below s _ _ _ (T1020.setTop (mkF m 427 #[.val (.int va), .val (.int vcnt), .val (.int vbits), .val (.int vown), .val (.int voth), .val (.int vfl), .val (.int vr1), .val (.int vs1), .val (.int vr2), .val (.int vs2), .val (.int vk), .val (.int vm), .val (.int x12), .val (.int x13), .val (.ref b970), .val (.int x15), .val (.int x16), .val (.int (x16 + vm)), .val (.int x18), .val (.int x19), .val (.long x20), .second, .val (.long x22), .second, .val (.ref b998)] [(.long (own_cl xw (x16 + 1) x18 x19))]))
                                      refine OGo.on (fun t k => XS.lload Xh1021.here hx rfl (hb hby at_427) rfl k) ?_
                                      refine OGo.on (fun t k => XS.lcmp Xh1021.here hx rfl (hb hby at_429) rfl k) ?_
                                      show OGo p e below s _ _ _ (T1020.setTop (mkF m 430 #[.val (.int va), .val (.int vcnt), .val (.int vbits), .val (.int vown), .val (.int voth), .val (.int vfl), .val (.int vr1), .val (.int vs1), .val (.int vr2), .val (.int vs2), .val (.int vk), .val (.int vm), .val (.int x12), .val (.int x13), .val (.ref b970), .val (.int x15), .val (.int x16), .val (.int (x16 + vm)), .val (.int x18), .val (.int x19), .val (.long x20), .second, .val (.long x22), .second, .val (.ref b998)] [(.int (lcmpW (own_cl xw (x16 + 1) x18 x19) x22))]))
                                      refine OGo.on (fun t k => XS.ifNo Xh1021.here hx rfl (hb hby at_430) rfl (lc_teq (by rw [hx22, hx20]; exact own_fin1 hwc (by rw [hc1013]))).2 k) ?_
                                      show OGo p e below s _ _ _ (T1020.setTop (mkF m 433 #[.val (.int va), .val (.int vcnt), .val (.int vbits), .val (.int vown), .val (.int voth), .val (.int vfl), .val (.int vr1), .val (.int vs1), .val (.int vr2), .val (.int vs2), .val (.int vk), .val (.int vm), .val (.int x12), .val (.int x13), .val (.ref b970), .val (.int x15), .val (.int x16), .val (.int (x16 + vm)), .val (.int x18), .val (.int x19), .val (.long x20), .second, .val (.long x22), .second, .val (.ref b998)] []))
                                      refine OGo.on (fun t k => XS.iconst Xh1021.here hx rfl (hb hby at_433) k) ?_
                                      refine OGo.on (fun t k => XS.goto Xh1021.here hx rfl (pc0 := 434) (pc' := 438) rfl (hb hby at_434) (by decide) (by decide) k) ?_
                                      show OGo p e below s _ _ _ (T1020.setTop (mkF m 438 #[.val (.int va), .val (.int vcnt), .val (.int vbits), .val (.int vown), .val (.int voth), .val (.int vfl), .val (.int vr1), .val (.int vs1), .val (.int vr2), .val (.int vs2), .val (.int vk), .val (.int vm), .val (.int x12), .val (.int x13), .val (.ref b970), .val (.int x15), .val (.int x16), .val (.int (x16 + vm)), .val (.int x18), .val (.int x19), .val (.long x20), .second, .val (.long x22), .second, .val (.ref b998)] [(.int (1 : Int32))]))
                                      exact OGo.retN Xh1021 hx (t := .boolean) hret hlk (by simp) (hb hby at_438) ⟨rfl, Nh1021⟩ (by decide) (by decide)
                                  · refine OGo.on (fun t k => XS.icmpYes Xq3.here hx rfl (pc0 := 403) (pc' := 416) rfl (hb hby at_403) rfl (feq hc1013).2 (by decide) (by decide) k) ?_
                                    show OGo p e below s _ _ _ (Tq3.setTop (mkF m 416 #[.val (.int va), .val (.int vcnt), .val (.int vbits), .val (.int vown), .val (.int voth), .val (.int vfl), .val (.int vr1), .val (.int vs1), .val (.int vr2), .val (.int vs2), .val (.int vk), .val (.int vm), .val (.int x12), .val (.int x13), .val (.ref b970), .val (.int x15), .val (.int x16), .val (.int (x16 + vm)), .val (.int x18), .val (.int x19), .val (.long x20), .second, .val (.long x22), .second, .val (.ref b998)] []))
                                    refine OGo.on (fun t k => XS.aload Xq3.here hx rfl (hb hby at_416) rfl rfl k) ?_
                                    refine OGo.on (fun t k => XS.iload Xq3.here hx rfl (hb hby at_418) rfl k) ?_
                                    refine OGo.on (fun t k => XS.iload Xq3.here hx rfl (hb hby at_420) rfl k) ?_
                                    refine OGo.on (fun t k => XS.iload Xq3.here hx rfl (hb hby at_422) rfl k) ?_
                                    show OGo p e below s _ _ _ (Tq3.setTop (mkF m 424 #[.val (.int va), .val (.int vcnt), .val (.int vbits), .val (.int vown), .val (.int voth), .val (.int vfl), .val (.int vr1), .val (.int vs1), .val (.int vr2), .val (.int vs2), .val (.int vk), .val (.int vm), .val (.int x12), .val (.int x13), .val (.ref b970), .val (.int x15), .val (.int x16), .val (.int (x16 + vm)), .val (.int x18), .val (.int x19), .val (.long x20), .second, .val (.long x22), .second, .val (.ref b998)] [(.int x18), (.int vs1), (.int vr1), (.ref b998)]))
                                    have E1022 := Oc.1
                                    obtain ⟨cq1022, kq1022, q1022a, q1022b, q1022c⟩ := isOf hZ eq3 E1022
                                    obtain ⟨_, _, ⟨T1022, L1022, k1022, n1022⟩, -, X1022, ⟨Lc1022, hQ1022, l1022, y1022, z1022⟩, st1022⟩ := Xq3.virtualBack hx (y := (⟨"com/example/slotwright/slotwright/solver/Occupancy", "clashes", "(III)J"⟩ : MethodName)) (z := (⟨"com/example/slotwright/slotwright/solver/Occupancy", "clashes", "(III)J"⟩ : MethodName)) hown (mvT hZ (hw _ (List.mem_of_getElem? (i := 59) rfl))) (mvT hZ (hw _ (List.mem_of_getElem? (i := 42) rfl))) (notFace_of_selects (args := #[]) (mvT hZ (hw _ (List.mem_of_getElem? (i := 44) rfl)))) (mvT hZ (hw _ (List.mem_of_getElem? (i := 44) rfl))) (mvT hZ (hw _ (List.mem_of_getElem? (i := 43) rfl))) (by decide) (backOf (W := 0) (own_mcl l Z a0 hw [] b998 rm rw b970 rl rk Mc Wc [x0, x1, x2, x3, x4, x5] Lic Cac ccc vr1 vs1 x18 xw x16 x19 hq3 n0 Zq3 hD Oc qwc hmc qcx) hZ (hw _ (List.mem_of_getElem? (i := 45) rfl)) (hw _ (List.mem_of_getElem? (i := 4) rfl)) (by decide) (by decide)) q1022a q1022c (g := (mkF m 424 #[.val (.int va), .val (.int vcnt), .val (.int vbits), .val (.int vown), .val (.int voth), .val (.int vfl), .val (.int vr1), .val (.int vs1), .val (.int vr2), .val (.int vs2), .val (.int vk), .val (.int vm), .val (.int x12), .val (.int x13), .val (.ref b970), .val (.int x15), .val (.int x16), .val (.int (x16 + vm)), .val (.int x18), .val (.int x19), .val (.long x20), .second, .val (.long x22), .second, .val (.ref b998)] [(.int x18), (.int vs1), (.int vr1), (.ref b998)])) rfl (by rw [hml]; rfl) (Steps.refl _) (argsL := [(.int vr1), (.int vs1), (.int x18)]) (rest := []) (lenOf own_pd0 rfl) rfl (by show 2 * 0 + _ ≤ _; exact Nat.le_of_eq rfl) (hb hby at_424) (fun _ _ => ⟨rfl, eq3, (by decide : 6 + 0 ≤ _), (by decide : 48 + 0 ≤ _)⟩)
                                    dsimp only [Pt.U, Pt.locs, Pt.cells, Pt.slots] at X1022 l1022 y1022 z1022 st1022 hQ1022
                                    subst l1022 y1022 z1022
                                    obtain ⟨rfl, N1022q, e1022⟩ := hQ1022
                                    have N1022 := Fr.app Nq3 N1022q
                                    obtain ⟨Lh1023, Xh1023, Nh1023⟩ := own_hide X1022 N1022
                                    refine OGo.on (fun t k => st1022.trans k) ?_
                                    show OGo p e below s _ _ _ (T1022.setTop (mkF m 427 #[.val (.int va), .val (.int vcnt), .val (.int vbits), .val (.int vown), .val (.int voth), .val (.int vfl), .val (.int vr1), .val (.int vs1), .val (.int vr2), .val (.int vs2), .val (.int vk), .val (.int vm), .val (.int x12), .val (.int x13), .val (.ref b970), .val (.int x15), .val (.int x16), .val (.int (x16 + vm)), .val (.int x18), .val (.int x19), .val (.long x20), .second, .val (.long x22), .second, .val (.ref b998)] [(.long (own_cl xw x16 x18 x19))]))
                                    refine OGo.on (fun t k => XS.lload Xh1023.here hx rfl (hb hby at_427) rfl k) ?_
                                    refine OGo.on (fun t k => XS.lcmp Xh1023.here hx rfl (hb hby at_429) rfl k) ?_
                                    show OGo p e below s _ _ _ (T1022.setTop (mkF m 430 #[.val (.int va), .val (.int vcnt), .val (.int vbits), .val (.int vown), .val (.int voth), .val (.int vfl), .val (.int vr1), .val (.int vs1), .val (.int vr2), .val (.int vs2), .val (.int vk), .val (.int vm), .val (.int x12), .val (.int x13), .val (.ref b970), .val (.int x15), .val (.int x16), .val (.int (x16 + vm)), .val (.int x18), .val (.int x19), .val (.long x20), .second, .val (.long x22), .second, .val (.ref b998)] [(.int (lcmpW (own_cl xw x16 x18 x19) x22))]))
                                    refine OGo.on (fun t k => XS.ifNo Xh1023.here hx rfl (hb hby at_430) rfl (lc_teq (by rw [hx22, hx20]; exact own_fin1 hwc (by rw [own_m2 hm hc1013, Int32.add_zero]))).2 k) ?_
                                    show OGo p e below s _ _ _ (T1022.setTop (mkF m 433 #[.val (.int va), .val (.int vcnt), .val (.int vbits), .val (.int vown), .val (.int voth), .val (.int vfl), .val (.int vr1), .val (.int vs1), .val (.int vr2), .val (.int vs2), .val (.int vk), .val (.int vm), .val (.int x12), .val (.int x13), .val (.ref b970), .val (.int x15), .val (.int x16), .val (.int (x16 + vm)), .val (.int x18), .val (.int x19), .val (.long x20), .second, .val (.long x22), .second, .val (.ref b998)] []))
                                    refine OGo.on (fun t k => XS.iconst Xh1023.here hx rfl (hb hby at_433) k) ?_
                                    refine OGo.on (fun t k => XS.goto Xh1023.here hx rfl (pc0 := 434) (pc' := 438) rfl (hb hby at_434) (by decide) (by decide) k) ?_
                                    show OGo p e below s _ _ _ (T1022.setTop (mkF m 438 #[.val (.int va), .val (.int vcnt), .val (.int vbits), .val (.int vown), .val (.int voth), .val (.int vfl), .val (.int vr1), .val (.int vs1), .val (.int vr2), .val (.int vs2), .val (.int vk), .val (.int vm), .val (.int x12), .val (.int x13), .val (.ref b970), .val (.int x15), .val (.int x16), .val (.int (x16 + vm)), .val (.int x18), .val (.int x19), .val (.long x20), .second, .val (.long x22), .second, .val (.ref b998)] [(.int (1 : Int32))]))
                                    exact OGo.retN Xh1023 hx (t := .boolean) hret hlk (by simp) (hb hby at_438) ⟨rfl, Nh1023⟩ (by decide) (by decide)
                                refine OGo.on (fun t k => XS.iload Xq2.here hx rfl (hb hby at_390) rfl k) ?_
                                show OGo p e below s _ _ _ (Tq2.setTop (mkF m 392 #[.val (.int va), .val (.int vcnt), .val (.int vbits), .val (.int vown), .val (.int voth), .val (.int vfl), .val (.int vr1), .val (.int vs1), .val (.int vr2), .val (.int vs2), .val (.int vk), .val (.int vm), .val (.int x12), .val (.int x13), .val (.ref b970), .val (.int x15), .val (.int x16), .val (.int (x16 + vm)), .val (.int x18), .val (.int x19), .val (.long x20), .second, .val (.long x22), .second, .val (.ref b998)] [(.int x12)]))
                                by_cases hc1024 : x12 = (0 : Int32)
                                · refine OGo.on (fun t k => XS.ifYes Xq2.here hx rfl (pc0 := 392) (pc' := 400) rfl (hb hby at_392) rfl ((if0 _ _).trans (teq hc1024).1) (by decide) (by decide) k) ?_
                                  show OGo p e below s _ _ _ (Tq2.setTop (mkF m 400 #[.val (.int va), .val (.int vcnt), .val (.int vbits), .val (.int vown), .val (.int voth), .val (.int vfl), .val (.int vr1), .val (.int vs1), .val (.int vr2), .val (.int vs2), .val (.int vk), .val (.int vm), .val (.int x12), .val (.int x13), .val (.ref b970), .val (.int x15), .val (.int x16), .val (.int (x16 + vm)), .val (.int x18), .val (.int x19), .val (.long x20), .second, .val (.long x22), .second, .val (.ref b998)] []))
                                  exact J400 Tq2 _ hq2 Mb [(1 : Int32), (1 : Int32), (1 : Int32), (1 : Int32), (1 : Int32), (1 : Int32)] Lib Cab ccb tb (1 : Int32) Xq2 Nq2 eq2 Zq2 Ob hmb (oat_z6 hi 1) (by rw [own_w0 _ _ hc1024]; rfl) hlb hcb (es_cc hes)
                                · refine OGo.on (fun t k => XS.ifNo Xq2.here hx rfl (hb hby at_392) rfl ((if0 _ _).trans (feq hc1024).1) k) ?_
                                  show OGo p e below s _ _ _ (Tq2.setTop (mkF m 395 #[.val (.int va), .val (.int vcnt), .val (.int vbits), .val (.int vown), .val (.int voth), .val (.int vfl), .val (.int vr1), .val (.int vs1), .val (.int vr2), .val (.int vs2), .val (.int vk), .val (.int vm), .val (.int x12), .val (.int x13), .val (.ref b970), .val (.int x15), .val (.int x16), .val (.int (x16 + vm)), .val (.int x18), .val (.int x19), .val (.long x20), .second, .val (.long x22), .second, .val (.ref b998)] []))
                                  rcases hes with ⟨rfl, hL⟩ | ⟨y0, rfl, ⟨hy0, qa0, m0, c0, qm0, qc0, hz0⟩, ⟨rfl, hL⟩ | ⟨hne0, hL⟩⟩ | ⟨y1, rfl, ⟨-, qa0, m0, c0, qm0, qc0, hz0⟩, ⟨hy1, qa1, m1, c1, qm1, qc1, hz1⟩, hne1, hL⟩
                                  · have hdum := hL
                                    refine OGo.on (fun t k => XS.aload Xq2.here hx rfl (hb hby at_395) rfl rfl k) ?_
                                    show OGo p e below s _ _ _ (Tq2.setTop (mkF m 397 #[.val (.int va), .val (.int vcnt), .val (.int vbits), .val (.int vown), .val (.int voth), .val (.int vfl), .val (.int vr1), .val (.int vs1), .val (.int vr2), .val (.int vs2), .val (.int vk), .val (.int vm), .val (.int x12), .val (.int x13), .val (.ref b970), .val (.int x15), .val (.int x16), .val (.int (x16 + vm)), .val (.int x18), .val (.int x19), .val (.long x20), .second, .val (.long x22), .second, .val (.ref b998)] [(.ref b998)]))
                                    have E1025 := Ob.1
                                    obtain ⟨cq1025, kq1025, q1025a, q1025b, q1025c⟩ := isOf hZ eq2 E1025
                                    obtain ⟨_, _, ⟨T1025, L1025, k1025, n1025⟩, -, X1025, ⟨Lc1025, hQ1025, l1025, y1025, z1025⟩, st1025⟩ := Xq2.virtualBack hx (y := (⟨"com/example/slotwright/slotwright/solver/Occupancy", "raiseWeights", "()V"⟩ : MethodName)) (z := (⟨"com/example/slotwright/slotwright/solver/Occupancy", "raiseWeights", "()V"⟩ : MethodName)) hown (mvT hZ (hw _ (List.mem_of_getElem? (i := 50) rfl))) (mvT hZ (hw _ (List.mem_of_getElem? (i := 51) rfl))) (notFace_of_selects (args := #[]) (mvT hZ (hw _ (List.mem_of_getElem? (i := 53) rfl)))) (mvT hZ (hw _ (List.mem_of_getElem? (i := 53) rfl))) (mvT hZ (hw _ (List.mem_of_getElem? (i := 52) rfl))) (by decide) (backOf (W := 0) (own_raise0 l Z a0 hw [] b998 rm rw b970 rl rk Mb [(1 : Int32), (1 : Int32), (1 : Int32), (1 : Int32), (1 : Int32), (1 : Int32)] [x0, x1, x2, x3, x4, x5] Lib Cab hq2 n0 Zq2 hD Ob hcb ) hZ (hw _ (List.mem_of_getElem? (i := 54) rfl)) (hw _ (List.mem_of_getElem? (i := 4) rfl)) (by decide) (by decide)) q1025a q1025c (g := (mkF m 397 #[.val (.int va), .val (.int vcnt), .val (.int vbits), .val (.int vown), .val (.int voth), .val (.int vfl), .val (.int vr1), .val (.int vs1), .val (.int vr2), .val (.int vs2), .val (.int vk), .val (.int vm), .val (.int x12), .val (.int x13), .val (.ref b970), .val (.int x15), .val (.int x16), .val (.int (x16 + vm)), .val (.int x18), .val (.int x19), .val (.long x20), .second, .val (.long x22), .second, .val (.ref b998)] [(.ref b998)])) rfl (by rw [hml]; rfl) (Steps.refl _) (argsL := []) (rest := []) (lenOf own_pd3 rfl) rfl (by show 2 * 0 + _ ≤ _; exact Nat.le_of_eq rfl) (hb hby at_397) (fun _ _ => ⟨rfl, eq2, (by decide : 6 + 0 ≤ _), (by decide : 48 + 0 ≤ _)⟩)
                                    dsimp only [Pt.U, Pt.locs, Pt.cells, Pt.slots] at X1025 l1025 y1025 z1025 st1025 hQ1025
                                    subst l1025 y1025 z1025
                                    obtain ⟨rfl, N1025q, Z1025, O1025'⟩ := hQ1025
                                    have N1025 := Fr.app Nq2 N1025q
                                    have eh1025 : T1025.heap = T1025.heap := rfl
                                    have O1025 : OCC Z T1025.heap b998 rm rw b970 rl rk Mb [(1 : Int32), (1 : Int32), (1 : Int32), (1 : Int32), (1 : Int32), (1 : Int32)] [x0, x1, x2, x3, x4, x5] Lib Cab (0 : Int32) := O1025'
                                    obtain ⟨Lh1026, Xh1026, Nh1026⟩ := own_hide X1025 N1025
                                    refine OGo.on (fun t k => st1025.trans k) ?_
                                    show OGo p e below s _ _ _ (T1025.setTop (mkF m 400 #[.val (.int va), .val (.int vcnt), .val (.int vbits), .val (.int vown), .val (.int voth), .val (.int vfl), .val (.int vr1), .val (.int vs1), .val (.int vr2), .val (.int vs2), .val (.int vk), .val (.int vm), .val (.int x12), .val (.int x13), .val (.ref b970), .val (.int x15), .val (.int x16), .val (.int (x16 + vm)), .val (.int x18), .val (.int x19), .val (.long x20), .second, .val (.long x22), .second, .val (.ref b998)] []))
                                    exact J400 T1025 _ T1025.heap Mb [(1 : Int32), (1 : Int32), (1 : Int32), (1 : Int32), (1 : Int32), (1 : Int32)] Lib Cab (0 : Int32) tb (1 : Int32) Xh1026 Nh1026 eh1025 Z1025 O1025 hmb (oat_z6 hi 1) (by rw [own_wN hbN hL]; rfl) hlb hcb ⟨by decide, by decide, by decide⟩
                                  · have hdum := hL
                                    refine OGo.on (fun t k => XS.aload Xq2.here hx rfl (hb hby at_395) rfl rfl k) ?_
                                    show OGo p e below s _ _ _ (Tq2.setTop (mkF m 397 #[.val (.int va), .val (.int vcnt), .val (.int vbits), .val (.int vown), .val (.int voth), .val (.int vfl), .val (.int vr1), .val (.int vs1), .val (.int vr2), .val (.int vs2), .val (.int vk), .val (.int vm), .val (.int x12), .val (.int x13), .val (.ref b970), .val (.int x15), .val (.int x16), .val (.int (x16 + vm)), .val (.int x18), .val (.int x19), .val (.long x20), .second, .val (.long x22), .second, .val (.ref b998)] [(.ref b998)]))
                                    have E1027 := Ob.1
                                    obtain ⟨cq1027, kq1027, q1027a, q1027b, q1027c⟩ := isOf hZ eq2 E1027
                                    obtain ⟨_, _, ⟨T1027, L1027, k1027, n1027⟩, -, X1027, ⟨Lc1027, hQ1027, l1027, y1027, z1027⟩, st1027⟩ := Xq2.virtualBack hx (y := (⟨"com/example/slotwright/slotwright/solver/Occupancy", "raiseWeights", "()V"⟩ : MethodName)) (z := (⟨"com/example/slotwright/slotwright/solver/Occupancy", "raiseWeights", "()V"⟩ : MethodName)) hown (mvT hZ (hw _ (List.mem_of_getElem? (i := 50) rfl))) (mvT hZ (hw _ (List.mem_of_getElem? (i := 51) rfl))) (notFace_of_selects (args := #[]) (mvT hZ (hw _ (List.mem_of_getElem? (i := 53) rfl)))) (mvT hZ (hw _ (List.mem_of_getElem? (i := 53) rfl))) (mvT hZ (hw _ (List.mem_of_getElem? (i := 52) rfl))) (by decide) (backOf (W := 0) (own_raise1 l Z a0 hw [] b998 rm rw b970 rl rk Mb [(1 : Int32), (1 : Int32), (1 : Int32), (1 : Int32), (1 : Int32), (1 : Int32)] [x0, x1, x2, x3, x4, x5] Lib Cab ((vr1 * (3 : Int32)) + vs1) m0 c0 (1 : Int32) hq2 n0 Zq2 hD Ob hcb qa0 qm0 qc0 (oat_z6 hi 1) hz0 ) hZ (hw _ (List.mem_of_getElem? (i := 54) rfl)) (hw _ (List.mem_of_getElem? (i := 4) rfl)) (by decide) (by decide)) q1027a q1027c (g := (mkF m 397 #[.val (.int va), .val (.int vcnt), .val (.int vbits), .val (.int vown), .val (.int voth), .val (.int vfl), .val (.int vr1), .val (.int vs1), .val (.int vr2), .val (.int vs2), .val (.int vk), .val (.int vm), .val (.int x12), .val (.int x13), .val (.ref b970), .val (.int x15), .val (.int x16), .val (.int (x16 + vm)), .val (.int x18), .val (.int x19), .val (.long x20), .second, .val (.long x22), .second, .val (.ref b998)] [(.ref b998)])) rfl (by rw [hml]; rfl) (Steps.refl _) (argsL := []) (rest := []) (lenOf own_pd3 rfl) rfl (by show 2 * 0 + _ ≤ _; exact Nat.le_of_eq rfl) (hb hby at_397) (fun _ _ => ⟨rfl, eq2, (by decide : 6 + 0 ≤ _), (by decide : 48 + 0 ≤ _)⟩)
                                    dsimp only [Pt.U, Pt.locs, Pt.cells, Pt.slots] at X1027 l1027 y1027 z1027 st1027 hQ1027
                                    subst l1027 y1027 z1027
                                    obtain ⟨rfl, N1027q, Z1027, O1027'⟩ := hQ1027
                                    have N1027 := Fr.app Nq2 N1027q
                                    have eh1027 : T1027.heap = T1027.heap := rfl
                                    have O1027 : OCC Z T1027.heap b998 rm rw b970 rl rk Mb ([(1 : Int32), (1 : Int32), (1 : Int32), (1 : Int32), (1 : Int32), (1 : Int32)].set ((vr1 * (3 : Int32)) + vs1).toNatClampNeg (2 : Int32)) [x0, x1, x2, x3, x4, x5] Lib (Cab.set (0 : Int32).toNatClampNeg ((vr1 * (3 : Int32)) + vs1)) (1 : Int32) := O1027'
                                    obtain ⟨Lh1028, Xh1028, Nh1028⟩ := own_hide X1027 N1027
                                    refine OGo.on (fun t k => st1027.trans k) ?_
                                    show OGo p e below s _ _ _ (T1027.setTop (mkF m 400 #[.val (.int va), .val (.int vcnt), .val (.int vbits), .val (.int vown), .val (.int voth), .val (.int vfl), .val (.int vr1), .val (.int vs1), .val (.int vr2), .val (.int vs2), .val (.int vk), .val (.int vm), .val (.int x12), .val (.int x13), .val (.ref b970), .val (.int x15), .val (.int x16), .val (.int (x16 + vm)), .val (.int x18), .val (.int x19), .val (.long x20), .second, .val (.long x22), .second, .val (.ref b998)] []))
                                    exact J400 T1027 _ T1027.heap Mb ([(1 : Int32), (1 : Int32), (1 : Int32), (1 : Int32), (1 : Int32), (1 : Int32)].set ((vr1 * (3 : Int32)) + vs1).toNatClampNeg (2 : Int32)) Lib (Cab.set (0 : Int32).toNatClampNeg ((vr1 * (3 : Int32)) + vs1)) (1 : Int32) tb (2 : Int32) Xh1028 Nh1028 eh1027 Z1027 O1027 hmb (oat_same (oat_z6 hi 1) _) (by rw [own_wL hbN hc1024 hL]; rfl) hlb (own_len16 hcb) ⟨by decide, by decide, by decide⟩
                                  · have hdum := hL
                                    refine OGo.on (fun t k => XS.aload Xq2.here hx rfl (hb hby at_395) rfl rfl k) ?_
                                    show OGo p e below s _ _ _ (Tq2.setTop (mkF m 397 #[.val (.int va), .val (.int vcnt), .val (.int vbits), .val (.int vown), .val (.int voth), .val (.int vfl), .val (.int vr1), .val (.int vs1), .val (.int vr2), .val (.int vs2), .val (.int vk), .val (.int vm), .val (.int x12), .val (.int x13), .val (.ref b970), .val (.int x15), .val (.int x16), .val (.int (x16 + vm)), .val (.int x18), .val (.int x19), .val (.long x20), .second, .val (.long x22), .second, .val (.ref b998)] [(.ref b998)]))
                                    have E1029 := Ob.1
                                    obtain ⟨cq1029, kq1029, q1029a, q1029b, q1029c⟩ := isOf hZ eq2 E1029
                                    obtain ⟨_, _, ⟨T1029, L1029, k1029, n1029⟩, -, X1029, ⟨Lc1029, hQ1029, l1029, y1029, z1029⟩, st1029⟩ := Xq2.virtualBack hx (y := (⟨"com/example/slotwright/slotwright/solver/Occupancy", "raiseWeights", "()V"⟩ : MethodName)) (z := (⟨"com/example/slotwright/slotwright/solver/Occupancy", "raiseWeights", "()V"⟩ : MethodName)) hown (mvT hZ (hw _ (List.mem_of_getElem? (i := 50) rfl))) (mvT hZ (hw _ (List.mem_of_getElem? (i := 51) rfl))) (notFace_of_selects (args := #[]) (mvT hZ (hw _ (List.mem_of_getElem? (i := 53) rfl)))) (mvT hZ (hw _ (List.mem_of_getElem? (i := 53) rfl))) (mvT hZ (hw _ (List.mem_of_getElem? (i := 52) rfl))) (by decide) (backOf (W := 0) (own_raise1 l Z a0 hw [] b998 rm rw b970 rl rk Mb [(1 : Int32), (1 : Int32), (1 : Int32), (1 : Int32), (1 : Int32), (1 : Int32)] [x0, x1, x2, x3, x4, x5] Lib Cab y0 m0 c0 (1 : Int32) hq2 n0 Zq2 hD Ob hcb qa0 qm0 qc0 (oat_z6 hy0 1) hz0 ) hZ (hw _ (List.mem_of_getElem? (i := 54) rfl)) (hw _ (List.mem_of_getElem? (i := 4) rfl)) (by decide) (by decide)) q1029a q1029c (g := (mkF m 397 #[.val (.int va), .val (.int vcnt), .val (.int vbits), .val (.int vown), .val (.int voth), .val (.int vfl), .val (.int vr1), .val (.int vs1), .val (.int vr2), .val (.int vs2), .val (.int vk), .val (.int vm), .val (.int x12), .val (.int x13), .val (.ref b970), .val (.int x15), .val (.int x16), .val (.int (x16 + vm)), .val (.int x18), .val (.int x19), .val (.long x20), .second, .val (.long x22), .second, .val (.ref b998)] [(.ref b998)])) rfl (by rw [hml]; rfl) (Steps.refl _) (argsL := []) (rest := []) (lenOf own_pd3 rfl) rfl (by show 2 * 0 + _ ≤ _; exact Nat.le_of_eq rfl) (hb hby at_397) (fun _ _ => ⟨rfl, eq2, (by decide : 6 + 0 ≤ _), (by decide : 48 + 0 ≤ _)⟩)
                                    dsimp only [Pt.U, Pt.locs, Pt.cells, Pt.slots] at X1029 l1029 y1029 z1029 st1029 hQ1029
                                    subst l1029 y1029 z1029
                                    obtain ⟨rfl, N1029q, Z1029, O1029'⟩ := hQ1029
                                    have N1029 := Fr.app Nq2 N1029q
                                    have eh1029 : T1029.heap = T1029.heap := rfl
                                    have O1029 : OCC Z T1029.heap b998 rm rw b970 rl rk Mb ([(1 : Int32), (1 : Int32), (1 : Int32), (1 : Int32), (1 : Int32), (1 : Int32)].set y0.toNatClampNeg (2 : Int32)) [x0, x1, x2, x3, x4, x5] Lib (Cab.set (0 : Int32).toNatClampNeg y0) (1 : Int32) := O1029'
                                    obtain ⟨Lh1030, Xh1030, Nh1030⟩ := own_hide X1029 N1029
                                    refine OGo.on (fun t k => st1029.trans k) ?_
                                    show OGo p e below s _ _ _ (T1029.setTop (mkF m 400 #[.val (.int va), .val (.int vcnt), .val (.int vbits), .val (.int vown), .val (.int voth), .val (.int vfl), .val (.int vr1), .val (.int vs1), .val (.int vr2), .val (.int vs2), .val (.int vk), .val (.int vm), .val (.int x12), .val (.int x13), .val (.ref b970), .val (.int x15), .val (.int x16), .val (.int (x16 + vm)), .val (.int x18), .val (.int x19), .val (.long x20), .second, .val (.long x22), .second, .val (.ref b998)] []))
                                    exact J400 T1029 _ T1029.heap Mb ([(1 : Int32), (1 : Int32), (1 : Int32), (1 : Int32), (1 : Int32), (1 : Int32)].set y0.toNatClampNeg (2 : Int32)) Lib (Cab.set (0 : Int32).toNatClampNeg y0) (1 : Int32) tb (1 : Int32) Xh1030 Nh1030 eh1029 Z1029 O1029 hmb (oat_other (oat_z6 hi 1) _ hy0 hi hne0) (by rw [own_wN hbN hL]; rfl) hlb (own_len16 hcb) ⟨by decide, by decide, by decide⟩
                                  · have hdum := hL
                                    refine OGo.on (fun t k => XS.aload Xq2.here hx rfl (hb hby at_395) rfl rfl k) ?_
                                    show OGo p e below s _ _ _ (Tq2.setTop (mkF m 397 #[.val (.int va), .val (.int vcnt), .val (.int vbits), .val (.int vown), .val (.int voth), .val (.int vfl), .val (.int vr1), .val (.int vs1), .val (.int vr2), .val (.int vs2), .val (.int vk), .val (.int vm), .val (.int x12), .val (.int x13), .val (.ref b970), .val (.int x15), .val (.int x16), .val (.int (x16 + vm)), .val (.int x18), .val (.int x19), .val (.long x20), .second, .val (.long x22), .second, .val (.ref b998)] [(.ref b998)]))
                                    have E1031 := Ob.1
                                    obtain ⟨cq1031, kq1031, q1031a, q1031b, q1031c⟩ := isOf hZ eq2 E1031
                                    obtain ⟨_, _, ⟨T1031, L1031, k1031, n1031⟩, -, X1031, ⟨Lc1031, hQ1031, l1031, y1031, z1031⟩, st1031⟩ := Xq2.virtualBack hx (y := (⟨"com/example/slotwright/slotwright/solver/Occupancy", "raiseWeights", "()V"⟩ : MethodName)) (z := (⟨"com/example/slotwright/slotwright/solver/Occupancy", "raiseWeights", "()V"⟩ : MethodName)) hown (mvT hZ (hw _ (List.mem_of_getElem? (i := 50) rfl))) (mvT hZ (hw _ (List.mem_of_getElem? (i := 51) rfl))) (notFace_of_selects (args := #[]) (mvT hZ (hw _ (List.mem_of_getElem? (i := 53) rfl)))) (mvT hZ (hw _ (List.mem_of_getElem? (i := 53) rfl))) (mvT hZ (hw _ (List.mem_of_getElem? (i := 52) rfl))) (by decide) (backOf (W := 0) (own_raise2 l Z a0 hw [] b998 rm rw b970 rl rk Mb [(1 : Int32), (1 : Int32), (1 : Int32), (1 : Int32), (1 : Int32), (1 : Int32)] [x0, x1, x2, x3, x4, x5] Lib Cab ((vr1 * (3 : Int32)) + vs1) m0 c0 (1 : Int32) y1 m1 c1 (1 : Int32) hq2 n0 Zq2 hD Ob hcb qa0 qm0 qc0 (oat_z6 hi 1) hz0 qa1 qm1 qc1 (oat_other (oat_z6 hy1 1) _ hi hy1 (Ne.symm hne1)) hz1 ) hZ (hw _ (List.mem_of_getElem? (i := 54) rfl)) (hw _ (List.mem_of_getElem? (i := 4) rfl)) (by decide) (by decide)) q1031a q1031c (g := (mkF m 397 #[.val (.int va), .val (.int vcnt), .val (.int vbits), .val (.int vown), .val (.int voth), .val (.int vfl), .val (.int vr1), .val (.int vs1), .val (.int vr2), .val (.int vs2), .val (.int vk), .val (.int vm), .val (.int x12), .val (.int x13), .val (.ref b970), .val (.int x15), .val (.int x16), .val (.int (x16 + vm)), .val (.int x18), .val (.int x19), .val (.long x20), .second, .val (.long x22), .second, .val (.ref b998)] [(.ref b998)])) rfl (by rw [hml]; rfl) (Steps.refl _) (argsL := []) (rest := []) (lenOf own_pd3 rfl) rfl (by show 2 * 0 + _ ≤ _; exact Nat.le_of_eq rfl) (hb hby at_397) (fun _ _ => ⟨rfl, eq2, (by decide : 6 + 0 ≤ _), (by decide : 48 + 0 ≤ _)⟩)
                                    dsimp only [Pt.U, Pt.locs, Pt.cells, Pt.slots] at X1031 l1031 y1031 z1031 st1031 hQ1031
                                    subst l1031 y1031 z1031
                                    obtain ⟨rfl, N1031q, Z1031, O1031'⟩ := hQ1031
                                    have N1031 := Fr.app Nq2 N1031q
                                    have eh1031 : T1031.heap = T1031.heap := rfl
                                    have O1031 : OCC Z T1031.heap b998 rm rw b970 rl rk Mb (([(1 : Int32), (1 : Int32), (1 : Int32), (1 : Int32), (1 : Int32), (1 : Int32)].set ((vr1 * (3 : Int32)) + vs1).toNatClampNeg (2 : Int32)).set y1.toNatClampNeg (2 : Int32)) [x0, x1, x2, x3, x4, x5] Lib ((Cab.set (0 : Int32).toNatClampNeg ((vr1 * (3 : Int32)) + vs1)).set (1 : Int32).toNatClampNeg y1) (2 : Int32) := O1031'
                                    obtain ⟨Lh1032, Xh1032, Nh1032⟩ := own_hide X1031 N1031
                                    refine OGo.on (fun t k => st1031.trans k) ?_
                                    show OGo p e below s _ _ _ (T1031.setTop (mkF m 400 #[.val (.int va), .val (.int vcnt), .val (.int vbits), .val (.int vown), .val (.int voth), .val (.int vfl), .val (.int vr1), .val (.int vs1), .val (.int vr2), .val (.int vs2), .val (.int vk), .val (.int vm), .val (.int x12), .val (.int x13), .val (.ref b970), .val (.int x15), .val (.int x16), .val (.int (x16 + vm)), .val (.int x18), .val (.int x19), .val (.long x20), .second, .val (.long x22), .second, .val (.ref b998)] []))
                                    exact J400 T1031 _ T1031.heap Mb (([(1 : Int32), (1 : Int32), (1 : Int32), (1 : Int32), (1 : Int32), (1 : Int32)].set ((vr1 * (3 : Int32)) + vs1).toNatClampNeg (2 : Int32)).set y1.toNatClampNeg (2 : Int32)) Lib ((Cab.set (0 : Int32).toNatClampNeg ((vr1 * (3 : Int32)) + vs1)).set (1 : Int32).toNatClampNeg y1) (2 : Int32) tb (2 : Int32) Xh1032 Nh1032 eh1031 Z1031 O1031 hmb (oat_other (oat_same (oat_z6 hi 1) _) _ hy1 hi hne1) (by rw [own_wL hbN hc1024 hL]; rfl) hlb (own_len16 (own_len16 hcb)) ⟨by decide, by decide, by decide⟩
                              refine OGo.on (fun t k => XS.iload Xq1.here hx rfl (hb hby at_375) rfl k) ?_
                              show OGo p e below s _ _ _ (Tq1.setTop (mkF m 377 #[.val (.int va), .val (.int vcnt), .val (.int vbits), .val (.int vown), .val (.int voth), .val (.int vfl), .val (.int vr1), .val (.int vs1), .val (.int vr2), .val (.int vs2), .val (.int vk), .val (.int vm), .val (.int x12), .val (.int x13), .val (.ref b970), .val (.int x15), .val (.int x16), .val (.int (x16 + vm)), .val (.int x18), .val (.int x19), .val (.long x20), .second, .val (.long x22), .second, .val (.ref b998)] [(.int x13)]))
                              by_cases hc1033 : x13 = (0 : Int32)
                              · refine OGo.on (fun t k => XS.ifYes Xq1.here hx rfl (pc0 := 377) (pc' := 390) rfl (hb hby at_377) rfl ((if0 _ _).trans (teq hc1033).1) (by decide) (by decide) k) ?_
                                show OGo p e below s _ _ _ (Tq1.setTop (mkF m 390 #[.val (.int va), .val (.int vcnt), .val (.int vbits), .val (.int vown), .val (.int voth), .val (.int vfl), .val (.int vr1), .val (.int vs1), .val (.int vr2), .val (.int vs2), .val (.int vk), .val (.int vm), .val (.int x12), .val (.int x13), .val (.ref b970), .val (.int x15), .val (.int x16), .val (.int (x16 + vm)), .val (.int x18), .val (.int x19), .val (.long x20), .second, .val (.long x22), .second, .val (.ref b998)] []))
                                exact J390 Tq1 _ hq1 Ma Lia Caa cca ta Xq1 Nq1 eq1 Zq1 Oa (by rw [(hx16.trans (own_bb0 _ hc1033))]; exact h45.1) (by rw [(hx16.trans (own_bb0 _ hc1033))]; exact hmi) hli hca (es_none (hx16.trans (own_bb0 _ hc1033)) hst hi h45.1 hmi qcx)
                              · refine OGo.on (fun t k => XS.ifNo Xq1.here hx rfl (hb hby at_377) rfl ((if0 _ _).trans (feq hc1033).1) k) ?_
                                show OGo p e below s _ _ _ (Tq1.setTop (mkF m 380 #[.val (.int va), .val (.int vcnt), .val (.int vbits), .val (.int vown), .val (.int voth), .val (.int vfl), .val (.int vr1), .val (.int vs1), .val (.int vr2), .val (.int vs2), .val (.int vk), .val (.int vm), .val (.int x12), .val (.int x13), .val (.ref b970), .val (.int x15), .val (.int x16), .val (.int (x16 + vm)), .val (.int x18), .val (.int x19), .val (.long x20), .second, .val (.long x22), .second, .val (.ref b998)] []))
                                by_cases hsm : x15 = 0
                                · have hne : ((vr1 * (3 : Int32)) + vs1) ≠ ((vr2 * (3 : Int32)) + vs2) := fun e => hx15.mpr (in_pe hr1 hs1 hr2 hs2 e) hsm
                                  rcases hst with ⟨rfl, rfl, hL⟩ | ⟨rfl, rfl, ha0, hL⟩
                                  · have hdum := hL
                                    by_cases hcj : own_bitp vbits ((vr2 * (3 : Int32)) + vs2) = 0
                                    · have hcjj := hcj
                                      refine OGo.on (fun t k => XS.aload Xq1.here hx rfl (hb hby at_380) rfl rfl k) ?_
                                      refine OGo.on (fun t k => XS.iload Xq1.here hx rfl (hb hby at_382) rfl k) ?_
                                      refine OGo.on (fun t k => XS.iload Xq1.here hx rfl (hb hby at_384) rfl k) ?_
                                      show OGo p e below s _ _ _ (Tq1.setTop (mkF m 386 #[.val (.int va), .val (.int vcnt), .val (.int vbits), .val (.int vown), .val (.int voth), .val (.int vfl), .val (.int vr1), .val (.int vs1), .val (.int vr2), .val (.int vs2), .val (.int vk), .val (.int vm), .val (.int x12), .val (.int x13), .val (.ref b970), .val (.int x15), .val (.int x16), .val (.int (x16 + vm)), .val (.int x18), .val (.int x19), .val (.long x20), .second, .val (.long x22), .second, .val (.ref b998)] [(.int vs2), (.int vr2), (.ref b998)]))
                                      have E1034 := Oa.1
                                      obtain ⟨cq1034, kq1034, q1034a, q1034b, q1034c⟩ := isOf hZ eq1 E1034
                                      obtain ⟨_, _, ⟨T1034, L1034, k1034, n1034⟩, -, X1034, ⟨Lc1034, hQ1034, l1034, y1034, z1034⟩, st1034⟩ := Xq1.virtualBack hx (y := (⟨"com/example/slotwright/slotwright/solver/Occupancy", "add", "(II)I"⟩ : MethodName)) (z := (⟨"com/example/slotwright/slotwright/solver/Occupancy", "add", "(II)I"⟩ : MethodName)) hown (mvT hZ (hw _ (List.mem_of_getElem? (i := 36) rfl))) (mvT hZ (hw _ (List.mem_of_getElem? (i := 37) rfl))) (notFace_of_selects (args := #[]) (mvT hZ (hw _ (List.mem_of_getElem? (i := 39) rfl)))) (mvT hZ (hw _ (List.mem_of_getElem? (i := 39) rfl))) (mvT hZ (hw _ (List.mem_of_getElem? (i := 38) rfl))) (by decide) (backOf (W := 0) (own_addB l Z a0 hw [] b998 rm rw b970 rl rk Ma [(1 : Int32), (1 : Int32), (1 : Int32), (1 : Int32), (1 : Int32), (1 : Int32)] [x0, x1, x2, x3, x4, x5] Lia Caa (0 : Int32) vr2 vs2 (1 : Int32) (0 : Int32) (own_bitp vbits ((vr2 * (3 : Int32)) + vs2)) (0 : Int32) hq1 n0 Zq1 hD Oa (oat_z6 hj 1) (hmj hne) qcj (hlj hne) (Or.inl (own_nB1 hcjj))) hZ (hw _ (List.mem_of_getElem? (i := 40) rfl)) (hw _ (List.mem_of_getElem? (i := 4) rfl)) (by decide) (by decide)) q1034a q1034c (g := (mkF m 386 #[.val (.int va), .val (.int vcnt), .val (.int vbits), .val (.int vown), .val (.int voth), .val (.int vfl), .val (.int vr1), .val (.int vs1), .val (.int vr2), .val (.int vs2), .val (.int vk), .val (.int vm), .val (.int x12), .val (.int x13), .val (.ref b970), .val (.int x15), .val (.int x16), .val (.int (x16 + vm)), .val (.int x18), .val (.int x19), .val (.long x20), .second, .val (.long x22), .second, .val (.ref b998)] [(.int vs2), (.int vr2), (.ref b998)])) rfl (by rw [hml]; rfl) (Steps.refl _) (argsL := [(.int vr2), (.int vs2)]) (rest := []) (lenOf own_pd1 rfl) rfl (by show 2 * 0 + _ ≤ _; exact Nat.le_of_eq rfl) (hb hby at_386) (fun _ _ => ⟨rfl, eq1, (by decide : 6 + 0 ≤ _), (by decide : 48 + 0 ≤ _)⟩)
                                      dsimp only [Pt.U, Pt.locs, Pt.cells, Pt.slots] at X1034 l1034 y1034 z1034 st1034 hQ1034
                                      subst l1034 y1034 z1034
                                      obtain ⟨⟨rv1034, rfl⟩, N1034q, Z1034, O1034'⟩ := hQ1034
                                      have N1034 := Fr.app Nq1 N1034q
                                      have eh1034 : T1034.heap = T1034.heap := rfl
                                      have O1034 : OCC Z T1034.heap b998 rm rw b970 rl rk (Ma.set ((vr2 * (3 : Int32)) + vs2).toNatClampNeg (1 : Int32)) [(1 : Int32), (1 : Int32), (1 : Int32), (1 : Int32), (1 : Int32), (1 : Int32)] [x0, x1, x2, x3, x4, x5] Lia Caa (0 : Int32) := O1034'
                                      obtain ⟨Lh1035, Xh1035, Nh1035⟩ := own_hide X1034 N1034
                                      refine OGo.on (fun t k => st1034.trans k) ?_
                                      show OGo p e below s _ _ _ (T1034.setTop (mkF m 389 #[.val (.int va), .val (.int vcnt), .val (.int vbits), .val (.int vown), .val (.int voth), .val (.int vfl), .val (.int vr1), .val (.int vs1), .val (.int vr2), .val (.int vs2), .val (.int vk), .val (.int vm), .val (.int x12), .val (.int x13), .val (.ref b970), .val (.int x15), .val (.int x16), .val (.int (x16 + vm)), .val (.int x18), .val (.int x19), .val (.long x20), .second, .val (.long x22), .second, .val (.ref b998)] [(.int rv1034)]))
                                      refine OGo.on (fun t k => XS.pop Xh1035.here hx rfl (hb hby at_389) rfl rfl k) ?_
                                      show OGo p e below s _ _ _ (T1034.setTop (mkF m 390 #[.val (.int va), .val (.int vcnt), .val (.int vbits), .val (.int vown), .val (.int voth), .val (.int vfl), .val (.int vr1), .val (.int vs1), .val (.int vr2), .val (.int vs2), .val (.int vk), .val (.int vm), .val (.int x12), .val (.int x13), .val (.ref b970), .val (.int x15), .val (.int x16), .val (.int (x16 + vm)), .val (.int x18), .val (.int x19), .val (.long x20), .second, .val (.long x22), .second, .val (.ref b998)] []))
                                      exact J390 T1034 _ T1034.heap (Ma.set ((vr2 * (3 : Int32)) + vs2).toNatClampNeg (1 : Int32)) Lia Caa (0 : Int32) (0 : Int32) Xh1035 Nh1035 eh1034 Z1034 O1034 (by rw [(hx16.trans (own_bb1 hc1033 hsm))]; exact h45.1) (by rw [(hx16.trans (own_bb1 hc1033 hsm))]; exact (oat_other hmi _ hj hi (Ne.symm hne))) hli hca (es_none (t := (0 : Int32)) (hx16.trans (own_bb1 hc1033 hsm)) (Or.inl ⟨rfl, rfl, hL⟩) hi h45.1 (oat_other hmi _ hj hi (Ne.symm hne)) qcx)
                                    · have hcjj := hcj
                                      refine OGo.on (fun t k => XS.aload Xq1.here hx rfl (hb hby at_380) rfl rfl k) ?_
                                      refine OGo.on (fun t k => XS.iload Xq1.here hx rfl (hb hby at_382) rfl k) ?_
                                      refine OGo.on (fun t k => XS.iload Xq1.here hx rfl (hb hby at_384) rfl k) ?_
                                      show OGo p e below s _ _ _ (Tq1.setTop (mkF m 386 #[.val (.int va), .val (.int vcnt), .val (.int vbits), .val (.int vown), .val (.int voth), .val (.int vfl), .val (.int vr1), .val (.int vs1), .val (.int vr2), .val (.int vs2), .val (.int vk), .val (.int vm), .val (.int x12), .val (.int x13), .val (.ref b970), .val (.int x15), .val (.int x16), .val (.int (x16 + vm)), .val (.int x18), .val (.int x19), .val (.long x20), .second, .val (.long x22), .second, .val (.ref b998)] [(.int vs2), (.int vr2), (.ref b998)]))
                                      have E1036 := Oa.1
                                      obtain ⟨cq1036, kq1036, q1036a, q1036b, q1036c⟩ := isOf hZ eq1 E1036
                                      obtain ⟨_, _, ⟨T1036, L1036, k1036, n1036⟩, -, X1036, ⟨Lc1036, hQ1036, l1036, y1036, z1036⟩, st1036⟩ := Xq1.virtualBack hx (y := (⟨"com/example/slotwright/slotwright/solver/Occupancy", "add", "(II)I"⟩ : MethodName)) (z := (⟨"com/example/slotwright/slotwright/solver/Occupancy", "add", "(II)I"⟩ : MethodName)) hown (mvT hZ (hw _ (List.mem_of_getElem? (i := 36) rfl))) (mvT hZ (hw _ (List.mem_of_getElem? (i := 37) rfl))) (notFace_of_selects (args := #[]) (mvT hZ (hw _ (List.mem_of_getElem? (i := 39) rfl)))) (mvT hZ (hw _ (List.mem_of_getElem? (i := 39) rfl))) (mvT hZ (hw _ (List.mem_of_getElem? (i := 38) rfl))) (by decide) (backOf (W := 0) (own_addA l Z a0 hw [] b998 rm rw b970 rl rk Ma [(1 : Int32), (1 : Int32), (1 : Int32), (1 : Int32), (1 : Int32), (1 : Int32)] [x0, x1, x2, x3, x4, x5] Lia Caa (0 : Int32) vr2 vs2 (1 : Int32) (0 : Int32) (own_bitp vbits ((vr2 * (3 : Int32)) + vs2)) (0 : Int32) hq1 n0 Zq1 hD Oa (oat_z6 hj 1) (hmj hne) qcj (hlj hne) (own_nA1 hcjj) rfl hca (by decide) (by decide) (by decide)) hZ (hw _ (List.mem_of_getElem? (i := 40) rfl)) (hw _ (List.mem_of_getElem? (i := 4) rfl)) (by decide) (by decide)) q1036a q1036c (g := (mkF m 386 #[.val (.int va), .val (.int vcnt), .val (.int vbits), .val (.int vown), .val (.int voth), .val (.int vfl), .val (.int vr1), .val (.int vs1), .val (.int vr2), .val (.int vs2), .val (.int vk), .val (.int vm), .val (.int x12), .val (.int x13), .val (.ref b970), .val (.int x15), .val (.int x16), .val (.int (x16 + vm)), .val (.int x18), .val (.int x19), .val (.long x20), .second, .val (.long x22), .second, .val (.ref b998)] [(.int vs2), (.int vr2), (.ref b998)])) rfl (by rw [hml]; rfl) (Steps.refl _) (argsL := [(.int vr2), (.int vs2)]) (rest := []) (lenOf own_pd1 rfl) rfl (by show 2 * 0 + _ ≤ _; exact Nat.le_of_eq rfl) (hb hby at_386) (fun _ _ => ⟨rfl, eq1, (by decide : 6 + 0 ≤ _), (by decide : 48 + 0 ≤ _)⟩)
                                      dsimp only [Pt.U, Pt.locs, Pt.cells, Pt.slots] at X1036 l1036 y1036 z1036 st1036 hQ1036
                                      subst l1036 y1036 z1036
                                      obtain ⟨⟨rv1036, rfl⟩, N1036q, Z1036, O1036'⟩ := hQ1036
                                      have N1036 := Fr.app Nq1 N1036q
                                      have eh1036 : T1036.heap = T1036.heap := rfl
                                      have O1036 : OCC Z T1036.heap b998 rm rw b970 rl rk (Ma.set ((vr2 * (3 : Int32)) + vs2).toNatClampNeg (1 : Int32)) [(1 : Int32), (1 : Int32), (1 : Int32), (1 : Int32), (1 : Int32), (1 : Int32)] [x0, x1, x2, x3, x4, x5] (Lia.set ((vr2 * (3 : Int32)) + vs2).toNatClampNeg 1) (Caa.set (0 : Int32).toNatClampNeg ((vr2 * (3 : Int32)) + vs2)) (1 : Int32) := O1036'
                                      obtain ⟨Lh1037, Xh1037, Nh1037⟩ := own_hide X1036 N1036
                                      refine OGo.on (fun t k => st1036.trans k) ?_
                                      show OGo p e below s _ _ _ (T1036.setTop (mkF m 389 #[.val (.int va), .val (.int vcnt), .val (.int vbits), .val (.int vown), .val (.int voth), .val (.int vfl), .val (.int vr1), .val (.int vs1), .val (.int vr2), .val (.int vs2), .val (.int vk), .val (.int vm), .val (.int x12), .val (.int x13), .val (.ref b970), .val (.int x15), .val (.int x16), .val (.int (x16 + vm)), .val (.int x18), .val (.int x19), .val (.long x20), .second, .val (.long x22), .second, .val (.ref b998)] [(.int rv1036)]))
                                      refine OGo.on (fun t k => XS.pop Xh1037.here hx rfl (hb hby at_389) rfl rfl k) ?_
                                      show OGo p e below s _ _ _ (T1036.setTop (mkF m 390 #[.val (.int va), .val (.int vcnt), .val (.int vbits), .val (.int vown), .val (.int voth), .val (.int vfl), .val (.int vr1), .val (.int vs1), .val (.int vr2), .val (.int vs2), .val (.int vk), .val (.int vm), .val (.int x12), .val (.int x13), .val (.ref b970), .val (.int x15), .val (.int x16), .val (.int (x16 + vm)), .val (.int x18), .val (.int x19), .val (.long x20), .second, .val (.long x22), .second, .val (.ref b998)] []))
                                      exact J390 T1036 _ T1036.heap (Ma.set ((vr2 * (3 : Int32)) + vs2).toNatClampNeg (1 : Int32)) (Lia.set ((vr2 * (3 : Int32)) + vs2).toNatClampNeg 1) (Caa.set (0 : Int32).toNatClampNeg ((vr2 * (3 : Int32)) + vs2)) (1 : Int32) (0 : Int32) Xh1037 Nh1037 eh1036 Z1036 O1036 (by rw [(hx16.trans (own_bb1 hc1033 hsm))]; exact h45.1) (by rw [(hx16.trans (own_bb1 hc1033 hsm))]; exact (oat_other hmi _ hj hi (Ne.symm hne))) (oat_other hli _ hj hi (Ne.symm hne)) (own_len16 hca) (es_j0 (hx16.trans (own_bb1 hc1033 hsm)) hL hj hne (oat_at0 hca _) (oat_same (hmj hne) _) qcj hcjj)
                                  · have hdum := hL
                                    by_cases hcj : own_bitp vbits ((vr2 * (3 : Int32)) + vs2) = 0
                                    · have hcjj := hcj
                                      refine OGo.on (fun t k => XS.aload Xq1.here hx rfl (hb hby at_380) rfl rfl k) ?_
                                      refine OGo.on (fun t k => XS.iload Xq1.here hx rfl (hb hby at_382) rfl k) ?_
                                      refine OGo.on (fun t k => XS.iload Xq1.here hx rfl (hb hby at_384) rfl k) ?_
                                      show OGo p e below s _ _ _ (Tq1.setTop (mkF m 386 #[.val (.int va), .val (.int vcnt), .val (.int vbits), .val (.int vown), .val (.int voth), .val (.int vfl), .val (.int vr1), .val (.int vs1), .val (.int vr2), .val (.int vs2), .val (.int vk), .val (.int vm), .val (.int x12), .val (.int x13), .val (.ref b970), .val (.int x15), .val (.int x16), .val (.int (x16 + vm)), .val (.int x18), .val (.int x19), .val (.long x20), .second, .val (.long x22), .second, .val (.ref b998)] [(.int vs2), (.int vr2), (.ref b998)]))
                                      have E1038 := Oa.1
                                      obtain ⟨cq1038, kq1038, q1038a, q1038b, q1038c⟩ := isOf hZ eq1 E1038
                                      obtain ⟨_, _, ⟨T1038, L1038, k1038, n1038⟩, -, X1038, ⟨Lc1038, hQ1038, l1038, y1038, z1038⟩, st1038⟩ := Xq1.virtualBack hx (y := (⟨"com/example/slotwright/slotwright/solver/Occupancy", "add", "(II)I"⟩ : MethodName)) (z := (⟨"com/example/slotwright/slotwright/solver/Occupancy", "add", "(II)I"⟩ : MethodName)) hown (mvT hZ (hw _ (List.mem_of_getElem? (i := 36) rfl))) (mvT hZ (hw _ (List.mem_of_getElem? (i := 37) rfl))) (notFace_of_selects (args := #[]) (mvT hZ (hw _ (List.mem_of_getElem? (i := 39) rfl)))) (mvT hZ (hw _ (List.mem_of_getElem? (i := 39) rfl))) (mvT hZ (hw _ (List.mem_of_getElem? (i := 38) rfl))) (by decide) (backOf (W := 0) (own_addB l Z a0 hw [] b998 rm rw b970 rl rk Ma [(1 : Int32), (1 : Int32), (1 : Int32), (1 : Int32), (1 : Int32), (1 : Int32)] [x0, x1, x2, x3, x4, x5] Lia Caa (1 : Int32) vr2 vs2 (1 : Int32) (0 : Int32) (own_bitp vbits ((vr2 * (3 : Int32)) + vs2)) (0 : Int32) hq1 n0 Zq1 hD Oa (oat_z6 hj 1) (hmj hne) qcj (hlj hne) (Or.inl (own_nB1 hcjj))) hZ (hw _ (List.mem_of_getElem? (i := 40) rfl)) (hw _ (List.mem_of_getElem? (i := 4) rfl)) (by decide) (by decide)) q1038a q1038c (g := (mkF m 386 #[.val (.int va), .val (.int vcnt), .val (.int vbits), .val (.int vown), .val (.int voth), .val (.int vfl), .val (.int vr1), .val (.int vs1), .val (.int vr2), .val (.int vs2), .val (.int vk), .val (.int vm), .val (.int x12), .val (.int x13), .val (.ref b970), .val (.int x15), .val (.int x16), .val (.int (x16 + vm)), .val (.int x18), .val (.int x19), .val (.long x20), .second, .val (.long x22), .second, .val (.ref b998)] [(.int vs2), (.int vr2), (.ref b998)])) rfl (by rw [hml]; rfl) (Steps.refl _) (argsL := [(.int vr2), (.int vs2)]) (rest := []) (lenOf own_pd1 rfl) rfl (by show 2 * 0 + _ ≤ _; exact Nat.le_of_eq rfl) (hb hby at_386) (fun _ _ => ⟨rfl, eq1, (by decide : 6 + 0 ≤ _), (by decide : 48 + 0 ≤ _)⟩)
                                      dsimp only [Pt.U, Pt.locs, Pt.cells, Pt.slots] at X1038 l1038 y1038 z1038 st1038 hQ1038
                                      subst l1038 y1038 z1038
                                      obtain ⟨⟨rv1038, rfl⟩, N1038q, Z1038, O1038'⟩ := hQ1038
                                      have N1038 := Fr.app Nq1 N1038q
                                      have eh1038 : T1038.heap = T1038.heap := rfl
                                      have O1038 : OCC Z T1038.heap b998 rm rw b970 rl rk (Ma.set ((vr2 * (3 : Int32)) + vs2).toNatClampNeg (1 : Int32)) [(1 : Int32), (1 : Int32), (1 : Int32), (1 : Int32), (1 : Int32), (1 : Int32)] [x0, x1, x2, x3, x4, x5] Lia Caa (1 : Int32) := O1038'
                                      obtain ⟨Lh1039, Xh1039, Nh1039⟩ := own_hide X1038 N1038
                                      refine OGo.on (fun t k => st1038.trans k) ?_
                                      show OGo p e below s _ _ _ (T1038.setTop (mkF m 389 #[.val (.int va), .val (.int vcnt), .val (.int vbits), .val (.int vown), .val (.int voth), .val (.int vfl), .val (.int vr1), .val (.int vs1), .val (.int vr2), .val (.int vs2), .val (.int vk), .val (.int vm), .val (.int x12), .val (.int x13), .val (.ref b970), .val (.int x15), .val (.int x16), .val (.int (x16 + vm)), .val (.int x18), .val (.int x19), .val (.long x20), .second, .val (.long x22), .second, .val (.ref b998)] [(.int rv1038)]))
                                      refine OGo.on (fun t k => XS.pop Xh1039.here hx rfl (hb hby at_389) rfl rfl k) ?_
                                      show OGo p e below s _ _ _ (T1038.setTop (mkF m 390 #[.val (.int va), .val (.int vcnt), .val (.int vbits), .val (.int vown), .val (.int voth), .val (.int vfl), .val (.int vr1), .val (.int vs1), .val (.int vr2), .val (.int vs2), .val (.int vk), .val (.int vm), .val (.int x12), .val (.int x13), .val (.ref b970), .val (.int x15), .val (.int x16), .val (.int (x16 + vm)), .val (.int x18), .val (.int x19), .val (.long x20), .second, .val (.long x22), .second, .val (.ref b998)] []))
                                      exact J390 T1038 _ T1038.heap (Ma.set ((vr2 * (3 : Int32)) + vs2).toNatClampNeg (1 : Int32)) Lia Caa (1 : Int32) (1 : Int32) Xh1039 Nh1039 eh1038 Z1038 O1038 (by rw [(hx16.trans (own_bb1 hc1033 hsm))]; exact h45.1) (by rw [(hx16.trans (own_bb1 hc1033 hsm))]; exact (oat_other hmi _ hj hi (Ne.symm hne))) hli hca (es_none (t := (1 : Int32)) (hx16.trans (own_bb1 hc1033 hsm)) (Or.inr ⟨rfl, rfl, ha0, hL⟩) hi h45.1 (oat_other hmi _ hj hi (Ne.symm hne)) qcx)
                                    · have hcjj := hcj
                                      refine OGo.on (fun t k => XS.aload Xq1.here hx rfl (hb hby at_380) rfl rfl k) ?_
                                      refine OGo.on (fun t k => XS.iload Xq1.here hx rfl (hb hby at_382) rfl k) ?_
                                      refine OGo.on (fun t k => XS.iload Xq1.here hx rfl (hb hby at_384) rfl k) ?_
                                      show OGo p e below s _ _ _ (Tq1.setTop (mkF m 386 #[.val (.int va), .val (.int vcnt), .val (.int vbits), .val (.int vown), .val (.int voth), .val (.int vfl), .val (.int vr1), .val (.int vs1), .val (.int vr2), .val (.int vs2), .val (.int vk), .val (.int vm), .val (.int x12), .val (.int x13), .val (.ref b970), .val (.int x15), .val (.int x16), .val (.int (x16 + vm)), .val (.int x18), .val (.int x19), .val (.long x20), .second, .val (.long x22), .second, .val (.ref b998)] [(.int vs2), (.int vr2), (.ref b998)]))
                                      have E1040 := Oa.1
                                      obtain ⟨cq1040, kq1040, q1040a, q1040b, q1040c⟩ := isOf hZ eq1 E1040
                                      obtain ⟨_, _, ⟨T1040, L1040, k1040, n1040⟩, -, X1040, ⟨Lc1040, hQ1040, l1040, y1040, z1040⟩, st1040⟩ := Xq1.virtualBack hx (y := (⟨"com/example/slotwright/slotwright/solver/Occupancy", "add", "(II)I"⟩ : MethodName)) (z := (⟨"com/example/slotwright/slotwright/solver/Occupancy", "add", "(II)I"⟩ : MethodName)) hown (mvT hZ (hw _ (List.mem_of_getElem? (i := 36) rfl))) (mvT hZ (hw _ (List.mem_of_getElem? (i := 37) rfl))) (notFace_of_selects (args := #[]) (mvT hZ (hw _ (List.mem_of_getElem? (i := 39) rfl)))) (mvT hZ (hw _ (List.mem_of_getElem? (i := 39) rfl))) (mvT hZ (hw _ (List.mem_of_getElem? (i := 38) rfl))) (by decide) (backOf (W := 0) (own_addA l Z a0 hw [] b998 rm rw b970 rl rk Ma [(1 : Int32), (1 : Int32), (1 : Int32), (1 : Int32), (1 : Int32), (1 : Int32)] [x0, x1, x2, x3, x4, x5] Lia Caa (1 : Int32) vr2 vs2 (1 : Int32) (0 : Int32) (own_bitp vbits ((vr2 * (3 : Int32)) + vs2)) (0 : Int32) hq1 n0 Zq1 hD Oa (oat_z6 hj 1) (hmj hne) qcj (hlj hne) (own_nA1 hcjj) rfl hca (by decide) (by decide) (by decide)) hZ (hw _ (List.mem_of_getElem? (i := 40) rfl)) (hw _ (List.mem_of_getElem? (i := 4) rfl)) (by decide) (by decide)) q1040a q1040c (g := (mkF m 386 #[.val (.int va), .val (.int vcnt), .val (.int vbits), .val (.int vown), .val (.int voth), .val (.int vfl), .val (.int vr1), .val (.int vs1), .val (.int vr2), .val (.int vs2), .val (.int vk), .val (.int vm), .val (.int x12), .val (.int x13), .val (.ref b970), .val (.int x15), .val (.int x16), .val (.int (x16 + vm)), .val (.int x18), .val (.int x19), .val (.long x20), .second, .val (.long x22), .second, .val (.ref b998)] [(.int vs2), (.int vr2), (.ref b998)])) rfl (by rw [hml]; rfl) (Steps.refl _) (argsL := [(.int vr2), (.int vs2)]) (rest := []) (lenOf own_pd1 rfl) rfl (by show 2 * 0 + _ ≤ _; exact Nat.le_of_eq rfl) (hb hby at_386) (fun _ _ => ⟨rfl, eq1, (by decide : 6 + 0 ≤ _), (by decide : 48 + 0 ≤ _)⟩)
                                      dsimp only [Pt.U, Pt.locs, Pt.cells, Pt.slots] at X1040 l1040 y1040 z1040 st1040 hQ1040
                                      subst l1040 y1040 z1040
                                      obtain ⟨⟨rv1040, rfl⟩, N1040q, Z1040, O1040'⟩ := hQ1040
                                      have N1040 := Fr.app Nq1 N1040q
                                      have eh1040 : T1040.heap = T1040.heap := rfl
                                      have O1040 : OCC Z T1040.heap b998 rm rw b970 rl rk (Ma.set ((vr2 * (3 : Int32)) + vs2).toNatClampNeg (1 : Int32)) [(1 : Int32), (1 : Int32), (1 : Int32), (1 : Int32), (1 : Int32), (1 : Int32)] [x0, x1, x2, x3, x4, x5] (Lia.set ((vr2 * (3 : Int32)) + vs2).toNatClampNeg 1) (Caa.set (1 : Int32).toNatClampNeg ((vr2 * (3 : Int32)) + vs2)) (2 : Int32) := O1040'
                                      obtain ⟨Lh1041, Xh1041, Nh1041⟩ := own_hide X1040 N1040
                                      refine OGo.on (fun t k => st1040.trans k) ?_
                                      show OGo p e below s _ _ _ (T1040.setTop (mkF m 389 #[.val (.int va), .val (.int vcnt), .val (.int vbits), .val (.int vown), .val (.int voth), .val (.int vfl), .val (.int vr1), .val (.int vs1), .val (.int vr2), .val (.int vs2), .val (.int vk), .val (.int vm), .val (.int x12), .val (.int x13), .val (.ref b970), .val (.int x15), .val (.int x16), .val (.int (x16 + vm)), .val (.int x18), .val (.int x19), .val (.long x20), .second, .val (.long x22), .second, .val (.ref b998)] [(.int rv1040)]))
                                      refine OGo.on (fun t k => XS.pop Xh1041.here hx rfl (hb hby at_389) rfl rfl k) ?_
                                      show OGo p e below s _ _ _ (T1040.setTop (mkF m 390 #[.val (.int va), .val (.int vcnt), .val (.int vbits), .val (.int vown), .val (.int voth), .val (.int vfl), .val (.int vr1), .val (.int vs1), .val (.int vr2), .val (.int vs2), .val (.int vk), .val (.int vm), .val (.int x12), .val (.int x13), .val (.ref b970), .val (.int x15), .val (.int x16), .val (.int (x16 + vm)), .val (.int x18), .val (.int x19), .val (.long x20), .second, .val (.long x22), .second, .val (.ref b998)] []))
                                      exact J390 T1040 _ T1040.heap (Ma.set ((vr2 * (3 : Int32)) + vs2).toNatClampNeg (1 : Int32)) (Lia.set ((vr2 * (3 : Int32)) + vs2).toNatClampNeg 1) (Caa.set (1 : Int32).toNatClampNeg ((vr2 * (3 : Int32)) + vs2)) (2 : Int32) (1 : Int32) Xh1041 Nh1041 eh1040 Z1040 O1040 (by rw [(hx16.trans (own_bb1 hc1033 hsm))]; exact h45.1) (by rw [(hx16.trans (own_bb1 hc1033 hsm))]; exact (oat_other hmi _ hj hi (Ne.symm hne))) (oat_other hli _ hj hi (Ne.symm hne)) (own_len16 hca) (es_j1 (hx16.trans (own_bb1 hc1033 hsm)) hL hi h45.1 hj hne (oat_ne ha0 _ (by decide)) (oat_other hmi _ hj hi (Ne.symm hne)) qcx (oat_at1 hca _) (oat_same (hmj hne) _) qcj hcjj)
                                · obtain ⟨rfl, rfl⟩ := hx15.mp hsm
                                  show OGo p e below s _ _ _ (Tq1.setTop (mkF m 380 #[.val (.int va), .val (.int vcnt), .val (.int vbits), .val (.int vown), .val (.int voth), .val (.int vfl), .val (.int vr1), .val (.int vs1), .val (.int vr1), .val (.int vs1), .val (.int vk), .val (.int vm), .val (.int x12), .val (.int x13), .val (.ref b970), .val (.int x15), .val (.int x16), .val (.int (x16 + vm)), .val (.int x18), .val (.int x19), .val (.long x20), .second, .val (.long x22), .second, .val (.ref b998)] []))
                                  rcases hst with ⟨rfl, rfl, hL⟩ | ⟨rfl, rfl, ha0, hL⟩
                                  · have hdum := hL
                                    by_cases hnn : 0 < own_cl 1 (vk + 1) 1 x19
                                    · have hLL := (own_nL hk).mp hnn
                                      refine OGo.on (fun t k => XS.aload Xq1.here hx rfl (hb hby at_380) rfl rfl k) ?_
                                      refine OGo.on (fun t k => XS.iload Xq1.here hx rfl (hb hby at_382) rfl k) ?_
                                      refine OGo.on (fun t k => XS.iload Xq1.here hx rfl (hb hby at_384) rfl k) ?_
                                      show OGo p e below s _ _ _ (Tq1.setTop (mkF m 386 #[.val (.int va), .val (.int vcnt), .val (.int vbits), .val (.int vown), .val (.int voth), .val (.int vfl), .val (.int vr1), .val (.int vs1), .val (.int vr1), .val (.int vs1), .val (.int vk), .val (.int vm), .val (.int x12), .val (.int x13), .val (.ref b970), .val (.int x15), .val (.int x16), .val (.int (x16 + vm)), .val (.int x18), .val (.int x19), .val (.long x20), .second, .val (.long x22), .second, .val (.ref b998)] [(.int vs1), (.int vr1), (.ref b998)]))
                                      have E1042 := Oa.1
                                      obtain ⟨cq1042, kq1042, q1042a, q1042b, q1042c⟩ := isOf hZ eq1 E1042
                                      obtain ⟨_, _, ⟨T1042, L1042, k1042, n1042⟩, -, X1042, ⟨Lc1042, hQ1042, l1042, y1042, z1042⟩, st1042⟩ := Xq1.virtualBack hx (y := (⟨"com/example/slotwright/slotwright/solver/Occupancy", "add", "(II)I"⟩ : MethodName)) (z := (⟨"com/example/slotwright/slotwright/solver/Occupancy", "add", "(II)I"⟩ : MethodName)) hown (mvT hZ (hw _ (List.mem_of_getElem? (i := 36) rfl))) (mvT hZ (hw _ (List.mem_of_getElem? (i := 37) rfl))) (notFace_of_selects (args := #[]) (mvT hZ (hw _ (List.mem_of_getElem? (i := 39) rfl)))) (mvT hZ (hw _ (List.mem_of_getElem? (i := 39) rfl))) (mvT hZ (hw _ (List.mem_of_getElem? (i := 38) rfl))) (by decide) (backOf (W := 0) (own_addA l Z a0 hw [] b998 rm rw b970 rl rk Ma [(1 : Int32), (1 : Int32), (1 : Int32), (1 : Int32), (1 : Int32), (1 : Int32)] [x0, x1, x2, x3, x4, x5] Lia Caa (0 : Int32) vr1 vs1 (1 : Int32) vk x19 (0 : Int32) hq1 n0 Zq1 hD Oa (oat_z6 hi 1) hmi qcx hli hnn rfl hca (by decide) (by decide) (by decide)) hZ (hw _ (List.mem_of_getElem? (i := 40) rfl)) (hw _ (List.mem_of_getElem? (i := 4) rfl)) (by decide) (by decide)) q1042a q1042c (g := (mkF m 386 #[.val (.int va), .val (.int vcnt), .val (.int vbits), .val (.int vown), .val (.int voth), .val (.int vfl), .val (.int vr1), .val (.int vs1), .val (.int vr1), .val (.int vs1), .val (.int vk), .val (.int vm), .val (.int x12), .val (.int x13), .val (.ref b970), .val (.int x15), .val (.int x16), .val (.int (x16 + vm)), .val (.int x18), .val (.int x19), .val (.long x20), .second, .val (.long x22), .second, .val (.ref b998)] [(.int vs1), (.int vr1), (.ref b998)])) rfl (by rw [hml]; rfl) (Steps.refl _) (argsL := [(.int vr1), (.int vs1)]) (rest := []) (lenOf own_pd1 rfl) rfl (by show 2 * 0 + _ ≤ _; exact Nat.le_of_eq rfl) (hb hby at_386) (fun _ _ => ⟨rfl, eq1, (by decide : 6 + 0 ≤ _), (by decide : 48 + 0 ≤ _)⟩)
                                      dsimp only [Pt.U, Pt.locs, Pt.cells, Pt.slots] at X1042 l1042 y1042 z1042 st1042 hQ1042
                                      subst l1042 y1042 z1042
                                      obtain ⟨⟨rv1042, rfl⟩, N1042q, Z1042, O1042'⟩ := hQ1042
                                      have N1042 := Fr.app Nq1 N1042q
                                      have eh1042 : T1042.heap = T1042.heap := rfl
                                      have O1042 : OCC Z T1042.heap b998 rm rw b970 rl rk (Ma.set ((vr1 * (3 : Int32)) + vs1).toNatClampNeg (vk + 1)) [(1 : Int32), (1 : Int32), (1 : Int32), (1 : Int32), (1 : Int32), (1 : Int32)] [x0, x1, x2, x3, x4, x5] (Lia.set ((vr1 * (3 : Int32)) + vs1).toNatClampNeg 1) (Caa.set (0 : Int32).toNatClampNeg ((vr1 * (3 : Int32)) + vs1)) (1 : Int32) := O1042'
                                      obtain ⟨Lh1043, Xh1043, Nh1043⟩ := own_hide X1042 N1042
                                      refine OGo.on (fun t k => st1042.trans k) ?_
                                      show OGo p e below s _ _ _ (T1042.setTop (mkF m 389 #[.val (.int va), .val (.int vcnt), .val (.int vbits), .val (.int vown), .val (.int voth), .val (.int vfl), .val (.int vr1), .val (.int vs1), .val (.int vr1), .val (.int vs1), .val (.int vk), .val (.int vm), .val (.int x12), .val (.int x13), .val (.ref b970), .val (.int x15), .val (.int x16), .val (.int (x16 + vm)), .val (.int x18), .val (.int x19), .val (.long x20), .second, .val (.long x22), .second, .val (.ref b998)] [(.int rv1042)]))
                                      refine OGo.on (fun t k => XS.pop Xh1043.here hx rfl (hb hby at_389) rfl rfl k) ?_
                                      show OGo p e below s _ _ _ (T1042.setTop (mkF m 390 #[.val (.int va), .val (.int vcnt), .val (.int vbits), .val (.int vown), .val (.int voth), .val (.int vfl), .val (.int vr1), .val (.int vs1), .val (.int vr1), .val (.int vs1), .val (.int vk), .val (.int vm), .val (.int x12), .val (.int x13), .val (.ref b970), .val (.int x15), .val (.int x16), .val (.int (x16 + vm)), .val (.int x18), .val (.int x19), .val (.long x20), .second, .val (.long x22), .second, .val (.ref b998)] []))
                                      exact J390 T1042 _ T1042.heap (Ma.set ((vr1 * (3 : Int32)) + vs1).toNatClampNeg (vk + 1)) (Lia.set ((vr1 * (3 : Int32)) + vs1).toNatClampNeg 1) (Caa.set (0 : Int32).toNatClampNeg ((vr1 * (3 : Int32)) + vs1)) (1 : Int32) (1 : Int32) Xh1043 Nh1043 eh1042 Z1042 O1042 (by rw [(hx16.trans (own_bb2 hc1033 hsm))]; exact h45.2) (by rw [(hx16.trans (own_bb2 hc1033 hsm))]; exact (oat_same hmi _)) (oat_same hli _) (own_len16 hca) (by rw [(hx16.trans (own_bb2 hc1033 hsm))]; exact es_i hi h45.2 hLL (oat_at0 hca _) (oat_same hmi _) qcx)
                                    · have hLL := fun z => hnn ((own_nL hk).mpr z)
                                      refine OGo.on (fun t k => XS.aload Xq1.here hx rfl (hb hby at_380) rfl rfl k) ?_
                                      refine OGo.on (fun t k => XS.iload Xq1.here hx rfl (hb hby at_382) rfl k) ?_
                                      refine OGo.on (fun t k => XS.iload Xq1.here hx rfl (hb hby at_384) rfl k) ?_
                                      show OGo p e below s _ _ _ (Tq1.setTop (mkF m 386 #[.val (.int va), .val (.int vcnt), .val (.int vbits), .val (.int vown), .val (.int voth), .val (.int vfl), .val (.int vr1), .val (.int vs1), .val (.int vr1), .val (.int vs1), .val (.int vk), .val (.int vm), .val (.int x12), .val (.int x13), .val (.ref b970), .val (.int x15), .val (.int x16), .val (.int (x16 + vm)), .val (.int x18), .val (.int x19), .val (.long x20), .second, .val (.long x22), .second, .val (.ref b998)] [(.int vs1), (.int vr1), (.ref b998)]))
                                      have E1044 := Oa.1
                                      obtain ⟨cq1044, kq1044, q1044a, q1044b, q1044c⟩ := isOf hZ eq1 E1044
                                      obtain ⟨_, _, ⟨T1044, L1044, k1044, n1044⟩, -, X1044, ⟨Lc1044, hQ1044, l1044, y1044, z1044⟩, st1044⟩ := Xq1.virtualBack hx (y := (⟨"com/example/slotwright/slotwright/solver/Occupancy", "add", "(II)I"⟩ : MethodName)) (z := (⟨"com/example/slotwright/slotwright/solver/Occupancy", "add", "(II)I"⟩ : MethodName)) hown (mvT hZ (hw _ (List.mem_of_getElem? (i := 36) rfl))) (mvT hZ (hw _ (List.mem_of_getElem? (i := 37) rfl))) (notFace_of_selects (args := #[]) (mvT hZ (hw _ (List.mem_of_getElem? (i := 39) rfl)))) (mvT hZ (hw _ (List.mem_of_getElem? (i := 39) rfl))) (mvT hZ (hw _ (List.mem_of_getElem? (i := 38) rfl))) (by decide) (backOf (W := 0) (own_addB l Z a0 hw [] b998 rm rw b970 rl rk Ma [(1 : Int32), (1 : Int32), (1 : Int32), (1 : Int32), (1 : Int32), (1 : Int32)] [x0, x1, x2, x3, x4, x5] Lia Caa (0 : Int32) vr1 vs1 (1 : Int32) vk x19 (0 : Int32) hq1 n0 Zq1 hD Oa (oat_z6 hi 1) hmi qcx hli (Or.inl hnn)) hZ (hw _ (List.mem_of_getElem? (i := 40) rfl)) (hw _ (List.mem_of_getElem? (i := 4) rfl)) (by decide) (by decide)) q1044a q1044c (g := (mkF m 386 #[.val (.int va), .val (.int vcnt), .val (.int vbits), .val (.int vown), .val (.int voth), .val (.int vfl), .val (.int vr1), .val (.int vs1), .val (.int vr1), .val (.int vs1), .val (.int vk), .val (.int vm), .val (.int x12), .val (.int x13), .val (.ref b970), .val (.int x15), .val (.int x16), .val (.int (x16 + vm)), .val (.int x18), .val (.int x19), .val (.long x20), .second, .val (.long x22), .second, .val (.ref b998)] [(.int vs1), (.int vr1), (.ref b998)])) rfl (by rw [hml]; rfl) (Steps.refl _) (argsL := [(.int vr1), (.int vs1)]) (rest := []) (lenOf own_pd1 rfl) rfl (by show 2 * 0 + _ ≤ _; exact Nat.le_of_eq rfl) (hb hby at_386) (fun _ _ => ⟨rfl, eq1, (by decide : 6 + 0 ≤ _), (by decide : 48 + 0 ≤ _)⟩)
                                      dsimp only [Pt.U, Pt.locs, Pt.cells, Pt.slots] at X1044 l1044 y1044 z1044 st1044 hQ1044
                                      subst l1044 y1044 z1044
                                      obtain ⟨⟨rv1044, rfl⟩, N1044q, Z1044, O1044'⟩ := hQ1044
                                      have N1044 := Fr.app Nq1 N1044q
                                      have eh1044 : T1044.heap = T1044.heap := rfl
                                      have O1044 : OCC Z T1044.heap b998 rm rw b970 rl rk (Ma.set ((vr1 * (3 : Int32)) + vs1).toNatClampNeg (vk + 1)) [(1 : Int32), (1 : Int32), (1 : Int32), (1 : Int32), (1 : Int32), (1 : Int32)] [x0, x1, x2, x3, x4, x5] Lia Caa (0 : Int32) := O1044'
                                      obtain ⟨Lh1045, Xh1045, Nh1045⟩ := own_hide X1044 N1044
                                      refine OGo.on (fun t k => st1044.trans k) ?_
                                      show OGo p e below s _ _ _ (T1044.setTop (mkF m 389 #[.val (.int va), .val (.int vcnt), .val (.int vbits), .val (.int vown), .val (.int voth), .val (.int vfl), .val (.int vr1), .val (.int vs1), .val (.int vr1), .val (.int vs1), .val (.int vk), .val (.int vm), .val (.int x12), .val (.int x13), .val (.ref b970), .val (.int x15), .val (.int x16), .val (.int (x16 + vm)), .val (.int x18), .val (.int x19), .val (.long x20), .second, .val (.long x22), .second, .val (.ref b998)] [(.int rv1044)]))
                                      refine OGo.on (fun t k => XS.pop Xh1045.here hx rfl (hb hby at_389) rfl rfl k) ?_
                                      show OGo p e below s _ _ _ (T1044.setTop (mkF m 390 #[.val (.int va), .val (.int vcnt), .val (.int vbits), .val (.int vown), .val (.int voth), .val (.int vfl), .val (.int vr1), .val (.int vs1), .val (.int vr1), .val (.int vs1), .val (.int vk), .val (.int vm), .val (.int x12), .val (.int x13), .val (.ref b970), .val (.int x15), .val (.int x16), .val (.int (x16 + vm)), .val (.int x18), .val (.int x19), .val (.long x20), .second, .val (.long x22), .second, .val (.ref b998)] []))
                                      exact J390 T1044 _ T1044.heap (Ma.set ((vr1 * (3 : Int32)) + vs1).toNatClampNeg (vk + 1)) Lia Caa (0 : Int32) (0 : Int32) Xh1045 Nh1045 eh1044 Z1044 O1044 (by rw [(hx16.trans (own_bb2 hc1033 hsm))]; exact h45.2) (by rw [(hx16.trans (own_bb2 hc1033 hsm))]; exact (oat_same hmi _)) hli hca (by rw [(hx16.trans (own_bb2 hc1033 hsm))]; exact Or.inl ⟨rfl, hLL⟩)
                                  · have hLL := own_up hk hL
                                    refine OGo.on (fun t k => XS.aload Xq1.here hx rfl (hb hby at_380) rfl rfl k) ?_
                                    refine OGo.on (fun t k => XS.iload Xq1.here hx rfl (hb hby at_382) rfl k) ?_
                                    refine OGo.on (fun t k => XS.iload Xq1.here hx rfl (hb hby at_384) rfl k) ?_
                                    show OGo p e below s _ _ _ (Tq1.setTop (mkF m 386 #[.val (.int va), .val (.int vcnt), .val (.int vbits), .val (.int vown), .val (.int voth), .val (.int vfl), .val (.int vr1), .val (.int vs1), .val (.int vr1), .val (.int vs1), .val (.int vk), .val (.int vm), .val (.int x12), .val (.int x13), .val (.ref b970), .val (.int x15), .val (.int x16), .val (.int (x16 + vm)), .val (.int x18), .val (.int x19), .val (.long x20), .second, .val (.long x22), .second, .val (.ref b998)] [(.int vs1), (.int vr1), (.ref b998)]))
                                    have E1046 := Oa.1
                                    obtain ⟨cq1046, kq1046, q1046a, q1046b, q1046c⟩ := isOf hZ eq1 E1046
                                    obtain ⟨_, _, ⟨T1046, L1046, k1046, n1046⟩, -, X1046, ⟨Lc1046, hQ1046, l1046, y1046, z1046⟩, st1046⟩ := Xq1.virtualBack hx (y := (⟨"com/example/slotwright/slotwright/solver/Occupancy", "add", "(II)I"⟩ : MethodName)) (z := (⟨"com/example/slotwright/slotwright/solver/Occupancy", "add", "(II)I"⟩ : MethodName)) hown (mvT hZ (hw _ (List.mem_of_getElem? (i := 36) rfl))) (mvT hZ (hw _ (List.mem_of_getElem? (i := 37) rfl))) (notFace_of_selects (args := #[]) (mvT hZ (hw _ (List.mem_of_getElem? (i := 39) rfl)))) (mvT hZ (hw _ (List.mem_of_getElem? (i := 39) rfl))) (mvT hZ (hw _ (List.mem_of_getElem? (i := 38) rfl))) (by decide) (backOf (W := 0) (own_addB l Z a0 hw [] b998 rm rw b970 rl rk Ma [(1 : Int32), (1 : Int32), (1 : Int32), (1 : Int32), (1 : Int32), (1 : Int32)] [x0, x1, x2, x3, x4, x5] Lia Caa (1 : Int32) vr1 vs1 (1 : Int32) vk x19 (1 : Int32) hq1 n0 Zq1 hD Oa (oat_z6 hi 1) hmi qcx hli (Or.inr (by decide))) hZ (hw _ (List.mem_of_getElem? (i := 40) rfl)) (hw _ (List.mem_of_getElem? (i := 4) rfl)) (by decide) (by decide)) q1046a q1046c (g := (mkF m 386 #[.val (.int va), .val (.int vcnt), .val (.int vbits), .val (.int vown), .val (.int voth), .val (.int vfl), .val (.int vr1), .val (.int vs1), .val (.int vr1), .val (.int vs1), .val (.int vk), .val (.int vm), .val (.int x12), .val (.int x13), .val (.ref b970), .val (.int x15), .val (.int x16), .val (.int (x16 + vm)), .val (.int x18), .val (.int x19), .val (.long x20), .second, .val (.long x22), .second, .val (.ref b998)] [(.int vs1), (.int vr1), (.ref b998)])) rfl (by rw [hml]; rfl) (Steps.refl _) (argsL := [(.int vr1), (.int vs1)]) (rest := []) (lenOf own_pd1 rfl) rfl (by show 2 * 0 + _ ≤ _; exact Nat.le_of_eq rfl) (hb hby at_386) (fun _ _ => ⟨rfl, eq1, (by decide : 6 + 0 ≤ _), (by decide : 48 + 0 ≤ _)⟩)
                                    dsimp only [Pt.U, Pt.locs, Pt.cells, Pt.slots] at X1046 l1046 y1046 z1046 st1046 hQ1046
                                    subst l1046 y1046 z1046
                                    obtain ⟨⟨rv1046, rfl⟩, N1046q, Z1046, O1046'⟩ := hQ1046
                                    have N1046 := Fr.app Nq1 N1046q
                                    have eh1046 : T1046.heap = T1046.heap := rfl
                                    have O1046 : OCC Z T1046.heap b998 rm rw b970 rl rk (Ma.set ((vr1 * (3 : Int32)) + vs1).toNatClampNeg (vk + 1)) [(1 : Int32), (1 : Int32), (1 : Int32), (1 : Int32), (1 : Int32), (1 : Int32)] [x0, x1, x2, x3, x4, x5] Lia Caa (1 : Int32) := O1046'
                                    obtain ⟨Lh1047, Xh1047, Nh1047⟩ := own_hide X1046 N1046
                                    refine OGo.on (fun t k => st1046.trans k) ?_
                                    show OGo p e below s _ _ _ (T1046.setTop (mkF m 389 #[.val (.int va), .val (.int vcnt), .val (.int vbits), .val (.int vown), .val (.int voth), .val (.int vfl), .val (.int vr1), .val (.int vs1), .val (.int vr1), .val (.int vs1), .val (.int vk), .val (.int vm), .val (.int x12), .val (.int x13), .val (.ref b970), .val (.int x15), .val (.int x16), .val (.int (x16 + vm)), .val (.int x18), .val (.int x19), .val (.long x20), .second, .val (.long x22), .second, .val (.ref b998)] [(.int rv1046)]))
                                    refine OGo.on (fun t k => XS.pop Xh1047.here hx rfl (hb hby at_389) rfl rfl k) ?_
                                    show OGo p e below s _ _ _ (T1046.setTop (mkF m 390 #[.val (.int va), .val (.int vcnt), .val (.int vbits), .val (.int vown), .val (.int voth), .val (.int vfl), .val (.int vr1), .val (.int vs1), .val (.int vr1), .val (.int vs1), .val (.int vk), .val (.int vm), .val (.int x12), .val (.int x13), .val (.ref b970), .val (.int x15), .val (.int x16), .val (.int (x16 + vm)), .val (.int x18), .val (.int x19), .val (.long x20), .second, .val (.long x22), .second, .val (.ref b998)] []))
                                    exact J390 T1046 _ T1046.heap (Ma.set ((vr1 * (3 : Int32)) + vs1).toNatClampNeg (vk + 1)) Lia Caa (1 : Int32) (1 : Int32) Xh1047 Nh1047 eh1046 Z1046 O1046 (by rw [(hx16.trans (own_bb2 hc1033 hsm))]; exact h45.2) (by rw [(hx16.trans (own_bb2 hc1033 hsm))]; exact (oat_same hmi _)) hli hca (by rw [(hx16.trans (own_bb2 hc1033 hsm))]; exact es_i hi h45.2 hLL ha0 (oat_same hmi _) qcx)
                            rcases own_k4 hk with rfl | rfl | rfl | rfl
                            · have hkk : True := trivial
                              show OGo p e below s _ _ _ (T1011.setTop (mkF m 327 #[.val (.int va), .val (.int vcnt), .val (.int vbits), .val (.int vown), .val (.int voth), .val (.int vfl), .val (.int vr1), .val (.int vs1), .val (.int vr2), .val (.int vs2), .val (.int (0 : Int32)), .val (.int vm), .val (.int x12), .val (.int x13), .val (.ref b970), .val (.int x15), .val (.int x16), .val (.int (x16 + vm)), .val (.int x18), .val (.int x19), .val (.long x20), .second, .val (.long x22), .second, .val (.ref b998)] []))
                              refine OGo.on (fun t k => XS.iload Xh1012.here hx rfl (hb hby at_327) rfl k) ?_
                              refine OGo.on (fun t k => XS.iconst Xh1012.here hx rfl (hb hby at_329) k) ?_
                              show OGo p e below s _ _ _ (T1011.setTop (mkF m 330 #[.val (.int va), .val (.int vcnt), .val (.int vbits), .val (.int vown), .val (.int voth), .val (.int vfl), .val (.int vr1), .val (.int vs1), .val (.int vr2), .val (.int vs2), .val (.int (0 : Int32)), .val (.int vm), .val (.int x12), .val (.int x13), .val (.ref b970), .val (.int x15), .val (.int x16), .val (.int (x16 + vm)), .val (.int x18), .val (.int x19), .val (.long x20), .second, .val (.long x22), .second, .val (.ref b998)] [(.int (1 : Int32)), (.int (0 : Int32))]))
                              refine OGo.on (fun t k => XS.icmpYes Xh1012.here hx rfl (pc0 := 330) (pc' := 343) rfl (hb hby at_330) rfl (tlt (by decide)).1 (by decide) (by decide) k) ?_
                              show OGo p e below s _ _ _ (T1011.setTop (mkF m 343 #[.val (.int va), .val (.int vcnt), .val (.int vbits), .val (.int vown), .val (.int voth), .val (.int vfl), .val (.int vr1), .val (.int vs1), .val (.int vr2), .val (.int vs2), .val (.int (0 : Int32)), .val (.int vm), .val (.int x12), .val (.int x13), .val (.ref b970), .val (.int x15), .val (.int x16), .val (.int (x16 + vm)), .val (.int x18), .val (.int x19), .val (.long x20), .second, .val (.long x22), .second, .val (.ref b998)] []))
                              refine OGo.on (fun t k => XS.iload Xh1012.here hx rfl (hb hby at_343) rfl k) ?_
                              refine OGo.on (fun t k => XS.iconst Xh1012.here hx rfl (hb hby at_345) k) ?_
                              show OGo p e below s _ _ _ (T1011.setTop (mkF m 346 #[.val (.int va), .val (.int vcnt), .val (.int vbits), .val (.int vown), .val (.int voth), .val (.int vfl), .val (.int vr1), .val (.int vs1), .val (.int vr2), .val (.int vs2), .val (.int (0 : Int32)), .val (.int vm), .val (.int x12), .val (.int x13), .val (.ref b970), .val (.int x15), .val (.int x16), .val (.int (x16 + vm)), .val (.int x18), .val (.int x19), .val (.long x20), .second, .val (.long x22), .second, .val (.ref b998)] [(.int (2 : Int32)), (.int (0 : Int32))]))
                              refine OGo.on (fun t k => XS.icmpYes Xh1012.here hx rfl (pc0 := 346) (pc' := 359) rfl (hb hby at_346) rfl (tlt (by decide)).1 (by decide) (by decide) k) ?_
                              show OGo p e below s _ _ _ (T1011.setTop (mkF m 359 #[.val (.int va), .val (.int vcnt), .val (.int vbits), .val (.int vown), .val (.int voth), .val (.int vfl), .val (.int vr1), .val (.int vs1), .val (.int vr2), .val (.int vs2), .val (.int (0 : Int32)), .val (.int vm), .val (.int x12), .val (.int x13), .val (.ref b970), .val (.int x15), .val (.int x16), .val (.int (x16 + vm)), .val (.int x18), .val (.int x19), .val (.long x20), .second, .val (.long x22), .second, .val (.ref b998)] []))
                              refine OGo.on (fun t k => XS.iload Xh1012.here hx rfl (hb hby at_359) rfl k) ?_
                              refine OGo.on (fun t k => XS.iconst Xh1012.here hx rfl (hb hby at_361) k) ?_
                              show OGo p e below s _ _ _ (T1011.setTop (mkF m 362 #[.val (.int va), .val (.int vcnt), .val (.int vbits), .val (.int vown), .val (.int voth), .val (.int vfl), .val (.int vr1), .val (.int vs1), .val (.int vr2), .val (.int vs2), .val (.int (0 : Int32)), .val (.int vm), .val (.int x12), .val (.int x13), .val (.ref b970), .val (.int x15), .val (.int x16), .val (.int (x16 + vm)), .val (.int x18), .val (.int x19), .val (.long x20), .second, .val (.long x22), .second, .val (.ref b998)] [(.int (3 : Int32)), (.int (0 : Int32))]))
                              refine OGo.on (fun t k => XS.icmpYes Xh1012.here hx rfl (pc0 := 362) (pc' := 375) rfl (hb hby at_362) rfl (tlt (by decide)).1 (by decide) (by decide) k) ?_
                              show OGo p e below s _ _ _ (T1011.setTop (mkF m 375 #[.val (.int va), .val (.int vcnt), .val (.int vbits), .val (.int vown), .val (.int voth), .val (.int vfl), .val (.int vr1), .val (.int vs1), .val (.int vr2), .val (.int vs2), .val (.int (0 : Int32)), .val (.int vm), .val (.int x12), .val (.int x13), .val (.ref b970), .val (.int x15), .val (.int x16), .val (.int (x16 + vm)), .val (.int x18), .val (.int x19), .val (.long x20), .second, .val (.long x22), .second, .val (.ref b998)] []))
                              exact J375 T1011 _ T1011.heap [(0 : Int32), (0 : Int32), (0 : Int32), (0 : Int32), (0 : Int32), (0 : Int32)] [(0 : Int32), (0 : Int32), (0 : Int32), (0 : Int32), (0 : Int32), (0 : Int32)] [(0 : Int32), (0 : Int32), (0 : Int32), (0 : Int32), (0 : Int32), (0 : Int32), (0 : Int32), (0 : Int32), (0 : Int32), (0 : Int32), (0 : Int32), (0 : Int32), (0 : Int32), (0 : Int32), (0 : Int32), (0 : Int32)] (0 : Int32) (0 : Int32) Xh1012 Nh1012 eh1011 Z1011 O1011 (oat_z6 hi 0) (fun hne => (oat_z6 hj 0)) (oat_z6 hi 0) (fun _ => oat_z6 hj 0) rfl (Or.inl ⟨rfl, rfl, (own_L0 _)⟩)
                            · have hkk : True := trivial
                              show OGo p e below s _ _ _ (T1011.setTop (mkF m 327 #[.val (.int va), .val (.int vcnt), .val (.int vbits), .val (.int vown), .val (.int voth), .val (.int vfl), .val (.int vr1), .val (.int vs1), .val (.int vr2), .val (.int vs2), .val (.int (1 : Int32)), .val (.int vm), .val (.int x12), .val (.int x13), .val (.ref b970), .val (.int x15), .val (.int x16), .val (.int (x16 + vm)), .val (.int x18), .val (.int x19), .val (.long x20), .second, .val (.long x22), .second, .val (.ref b998)] []))
                              by_cases hci : x19 = 0
                              · have hcc0 := hci
                                refine OGo.on (fun t k => XS.iload Xh1012.here hx rfl (hb hby at_327) rfl k) ?_
                                refine OGo.on (fun t k => XS.iconst Xh1012.here hx rfl (hb hby at_329) k) ?_
                                show OGo p e below s _ _ _ (T1011.setTop (mkF m 330 #[.val (.int va), .val (.int vcnt), .val (.int vbits), .val (.int vown), .val (.int voth), .val (.int vfl), .val (.int vr1), .val (.int vs1), .val (.int vr2), .val (.int vs2), .val (.int (1 : Int32)), .val (.int vm), .val (.int x12), .val (.int x13), .val (.ref b970), .val (.int x15), .val (.int x16), .val (.int (x16 + vm)), .val (.int x18), .val (.int x19), .val (.long x20), .second, .val (.long x22), .second, .val (.ref b998)] [(.int (1 : Int32)), (.int (1 : Int32))]))
                                refine OGo.on (fun t k => XS.icmpNo Xh1012.here hx rfl (hb hby at_330) rfl (flt (by decide)).1 k) ?_
                                show OGo p e below s _ _ _ (T1011.setTop (mkF m 333 #[.val (.int va), .val (.int vcnt), .val (.int vbits), .val (.int vown), .val (.int voth), .val (.int vfl), .val (.int vr1), .val (.int vs1), .val (.int vr2), .val (.int vs2), .val (.int (1 : Int32)), .val (.int vm), .val (.int x12), .val (.int x13), .val (.ref b970), .val (.int x15), .val (.int x16), .val (.int (x16 + vm)), .val (.int x18), .val (.int x19), .val (.long x20), .second, .val (.long x22), .second, .val (.ref b998)] []))
                                refine OGo.on (fun t k => XS.aload Xh1012.here hx rfl (hb hby at_333) rfl rfl k) ?_
                                refine OGo.on (fun t k => XS.iload Xh1012.here hx rfl (hb hby at_335) rfl k) ?_
                                refine OGo.on (fun t k => XS.iload Xh1012.here hx rfl (hb hby at_337) rfl k) ?_
                                show OGo p e below s _ _ _ (T1011.setTop (mkF m 339 #[.val (.int va), .val (.int vcnt), .val (.int vbits), .val (.int vown), .val (.int voth), .val (.int vfl), .val (.int vr1), .val (.int vs1), .val (.int vr2), .val (.int vs2), .val (.int (1 : Int32)), .val (.int vm), .val (.int x12), .val (.int x13), .val (.ref b970), .val (.int x15), .val (.int x16), .val (.int (x16 + vm)), .val (.int x18), .val (.int x19), .val (.long x20), .second, .val (.long x22), .second, .val (.ref b998)] [(.int vs1), (.int vr1), (.ref b998)]))
                                have E1048 := O1011.1
                                obtain ⟨cq1048, kq1048, q1048a, q1048b, q1048c⟩ := isOf hZ eh1011 E1048
                                obtain ⟨_, _, ⟨T1048, L1048, k1048, n1048⟩, -, X1048, ⟨Lc1048, hQ1048, l1048, y1048, z1048⟩, st1048⟩ := Xh1012.virtualBack hx (y := (⟨"com/example/slotwright/slotwright/solver/Occupancy", "add", "(II)I"⟩ : MethodName)) (z := (⟨"com/example/slotwright/slotwright/solver/Occupancy", "add", "(II)I"⟩ : MethodName)) hown (mvT hZ (hw _ (List.mem_of_getElem? (i := 36) rfl))) (mvT hZ (hw _ (List.mem_of_getElem? (i := 37) rfl))) (notFace_of_selects (args := #[]) (mvT hZ (hw _ (List.mem_of_getElem? (i := 39) rfl)))) (mvT hZ (hw _ (List.mem_of_getElem? (i := 39) rfl))) (mvT hZ (hw _ (List.mem_of_getElem? (i := 38) rfl))) (by decide) (backOf (W := 0) (own_addB l Z a0 hw [] b998 rm rw b970 rl rk [(0 : Int32), (0 : Int32), (0 : Int32), (0 : Int32), (0 : Int32), (0 : Int32)] [(1 : Int32), (1 : Int32), (1 : Int32), (1 : Int32), (1 : Int32), (1 : Int32)] [x0, x1, x2, x3, x4, x5] [(0 : Int32), (0 : Int32), (0 : Int32), (0 : Int32), (0 : Int32), (0 : Int32)] [(0 : Int32), (0 : Int32), (0 : Int32), (0 : Int32), (0 : Int32), (0 : Int32), (0 : Int32), (0 : Int32), (0 : Int32), (0 : Int32), (0 : Int32), (0 : Int32), (0 : Int32), (0 : Int32), (0 : Int32), (0 : Int32)] (0 : Int32) vr1 vs1 (1 : Int32) (0 : Int32) x19 (0 : Int32) T1011.heap n0 Z1011 hD O1011 (oat_z6 hi 1) (oat_z6 hi 0) qcx (oat_z6 hi 0) (Or.inl (own_nB1 hcc0))) hZ (hw _ (List.mem_of_getElem? (i := 40) rfl)) (hw _ (List.mem_of_getElem? (i := 4) rfl)) (by decide) (by decide)) q1048a q1048c (g := (mkF m 339 #[.val (.int va), .val (.int vcnt), .val (.int vbits), .val (.int vown), .val (.int voth), .val (.int vfl), .val (.int vr1), .val (.int vs1), .val (.int vr2), .val (.int vs2), .val (.int (1 : Int32)), .val (.int vm), .val (.int x12), .val (.int x13), .val (.ref b970), .val (.int x15), .val (.int x16), .val (.int (x16 + vm)), .val (.int x18), .val (.int x19), .val (.long x20), .second, .val (.long x22), .second, .val (.ref b998)] [(.int vs1), (.int vr1), (.ref b998)])) rfl (by rw [hml]; rfl) (Steps.refl _) (argsL := [(.int vr1), (.int vs1)]) (rest := []) (lenOf own_pd1 rfl) rfl (by show 2 * 0 + _ ≤ _; exact Nat.le_of_eq rfl) (hb hby at_339) (fun _ _ => ⟨rfl, eh1011, (by decide : 6 + 0 ≤ _), (by decide : 48 + 0 ≤ _)⟩)
                                dsimp only [Pt.U, Pt.locs, Pt.cells, Pt.slots] at X1048 l1048 y1048 z1048 st1048 hQ1048
                                subst l1048 y1048 z1048
                                obtain ⟨⟨rv1048, rfl⟩, N1048q, Z1048, O1048'⟩ := hQ1048
                                have N1048 := Fr.app Nh1012 N1048q
                                have eh1048 : T1048.heap = T1048.heap := rfl
                                have O1048 : OCC Z T1048.heap b998 rm rw b970 rl rk ([(0 : Int32), (0 : Int32), (0 : Int32), (0 : Int32), (0 : Int32), (0 : Int32)].set ((vr1 * (3 : Int32)) + vs1).toNatClampNeg (1 : Int32)) [(1 : Int32), (1 : Int32), (1 : Int32), (1 : Int32), (1 : Int32), (1 : Int32)] [x0, x1, x2, x3, x4, x5] [(0 : Int32), (0 : Int32), (0 : Int32), (0 : Int32), (0 : Int32), (0 : Int32)] [(0 : Int32), (0 : Int32), (0 : Int32), (0 : Int32), (0 : Int32), (0 : Int32), (0 : Int32), (0 : Int32), (0 : Int32), (0 : Int32), (0 : Int32), (0 : Int32), (0 : Int32), (0 : Int32), (0 : Int32), (0 : Int32)] (0 : Int32) := O1048'
                                obtain ⟨Lh1049, Xh1049, Nh1049⟩ := own_hide X1048 N1048
                                refine OGo.on (fun t k => st1048.trans k) ?_
                                show OGo p e below s _ _ _ (T1048.setTop (mkF m 342 #[.val (.int va), .val (.int vcnt), .val (.int vbits), .val (.int vown), .val (.int voth), .val (.int vfl), .val (.int vr1), .val (.int vs1), .val (.int vr2), .val (.int vs2), .val (.int (1 : Int32)), .val (.int vm), .val (.int x12), .val (.int x13), .val (.ref b970), .val (.int x15), .val (.int x16), .val (.int (x16 + vm)), .val (.int x18), .val (.int x19), .val (.long x20), .second, .val (.long x22), .second, .val (.ref b998)] [(.int rv1048)]))
                                refine OGo.on (fun t k => XS.pop Xh1049.here hx rfl (hb hby at_342) rfl rfl k) ?_
                                refine OGo.on (fun t k => XS.iload Xh1049.here hx rfl (hb hby at_343) rfl k) ?_
                                refine OGo.on (fun t k => XS.iconst Xh1049.here hx rfl (hb hby at_345) k) ?_
                                show OGo p e below s _ _ _ (T1048.setTop (mkF m 346 #[.val (.int va), .val (.int vcnt), .val (.int vbits), .val (.int vown), .val (.int voth), .val (.int vfl), .val (.int vr1), .val (.int vs1), .val (.int vr2), .val (.int vs2), .val (.int (1 : Int32)), .val (.int vm), .val (.int x12), .val (.int x13), .val (.ref b970), .val (.int x15), .val (.int x16), .val (.int (x16 + vm)), .val (.int x18), .val (.int x19), .val (.long x20), .second, .val (.long x22), .second, .val (.ref b998)] [(.int (2 : Int32)), (.int (1 : Int32))]))
                                refine OGo.on (fun t k => XS.icmpYes Xh1049.here hx rfl (pc0 := 346) (pc' := 359) rfl (hb hby at_346) rfl (tlt (by decide)).1 (by decide) (by decide) k) ?_
                                show OGo p e below s _ _ _ (T1048.setTop (mkF m 359 #[.val (.int va), .val (.int vcnt), .val (.int vbits), .val (.int vown), .val (.int voth), .val (.int vfl), .val (.int vr1), .val (.int vs1), .val (.int vr2), .val (.int vs2), .val (.int (1 : Int32)), .val (.int vm), .val (.int x12), .val (.int x13), .val (.ref b970), .val (.int x15), .val (.int x16), .val (.int (x16 + vm)), .val (.int x18), .val (.int x19), .val (.long x20), .second, .val (.long x22), .second, .val (.ref b998)] []))
                                refine OGo.on (fun t k => XS.iload Xh1049.here hx rfl (hb hby at_359) rfl k) ?_
                                refine OGo.on (fun t k => XS.iconst Xh1049.here hx rfl (hb hby at_361) k) ?_
                                show OGo p e below s _ _ _ (T1048.setTop (mkF m 362 #[.val (.int va), .val (.int vcnt), .val (.int vbits), .val (.int vown), .val (.int voth), .val (.int vfl), .val (.int vr1), .val (.int vs1), .val (.int vr2), .val (.int vs2), .val (.int (1 : Int32)), .val (.int vm), .val (.int x12), .val (.int x13), .val (.ref b970), .val (.int x15), .val (.int x16), .val (.int (x16 + vm)), .val (.int x18), .val (.int x19), .val (.long x20), .second, .val (.long x22), .second, .val (.ref b998)] [(.int (3 : Int32)), (.int (1 : Int32))]))
                                refine OGo.on (fun t k => XS.icmpYes Xh1049.here hx rfl (pc0 := 362) (pc' := 375) rfl (hb hby at_362) rfl (tlt (by decide)).1 (by decide) (by decide) k) ?_
                                show OGo p e below s _ _ _ (T1048.setTop (mkF m 375 #[.val (.int va), .val (.int vcnt), .val (.int vbits), .val (.int vown), .val (.int voth), .val (.int vfl), .val (.int vr1), .val (.int vs1), .val (.int vr2), .val (.int vs2), .val (.int (1 : Int32)), .val (.int vm), .val (.int x12), .val (.int x13), .val (.ref b970), .val (.int x15), .val (.int x16), .val (.int (x16 + vm)), .val (.int x18), .val (.int x19), .val (.long x20), .second, .val (.long x22), .second, .val (.ref b998)] []))
                                exact J375 T1048 _ T1048.heap ([(0 : Int32), (0 : Int32), (0 : Int32), (0 : Int32), (0 : Int32), (0 : Int32)].set ((vr1 * (3 : Int32)) + vs1).toNatClampNeg (1 : Int32)) [(0 : Int32), (0 : Int32), (0 : Int32), (0 : Int32), (0 : Int32), (0 : Int32)] [(0 : Int32), (0 : Int32), (0 : Int32), (0 : Int32), (0 : Int32), (0 : Int32), (0 : Int32), (0 : Int32), (0 : Int32), (0 : Int32), (0 : Int32), (0 : Int32), (0 : Int32), (0 : Int32), (0 : Int32), (0 : Int32)] (0 : Int32) (0 : Int32) Xh1049 Nh1049 eh1048 Z1048 O1048 (oat_same (oat_z6 hi 0) _) (fun hne => (oat_other (oat_z6 hj 0) _ hi hj hne)) (oat_z6 hi 0) (fun _ => oat_z6 hj 0) rfl (Or.inl ⟨rfl, rfl, (own_L1 hcc0)⟩)
                              · have hcc0 := hci
                                refine OGo.on (fun t k => XS.iload Xh1012.here hx rfl (hb hby at_327) rfl k) ?_
                                refine OGo.on (fun t k => XS.iconst Xh1012.here hx rfl (hb hby at_329) k) ?_
                                show OGo p e below s _ _ _ (T1011.setTop (mkF m 330 #[.val (.int va), .val (.int vcnt), .val (.int vbits), .val (.int vown), .val (.int voth), .val (.int vfl), .val (.int vr1), .val (.int vs1), .val (.int vr2), .val (.int vs2), .val (.int (1 : Int32)), .val (.int vm), .val (.int x12), .val (.int x13), .val (.ref b970), .val (.int x15), .val (.int x16), .val (.int (x16 + vm)), .val (.int x18), .val (.int x19), .val (.long x20), .second, .val (.long x22), .second, .val (.ref b998)] [(.int (1 : Int32)), (.int (1 : Int32))]))
                                refine OGo.on (fun t k => XS.icmpNo Xh1012.here hx rfl (hb hby at_330) rfl (flt (by decide)).1 k) ?_
                                show OGo p e below s _ _ _ (T1011.setTop (mkF m 333 #[.val (.int va), .val (.int vcnt), .val (.int vbits), .val (.int vown), .val (.int voth), .val (.int vfl), .val (.int vr1), .val (.int vs1), .val (.int vr2), .val (.int vs2), .val (.int (1 : Int32)), .val (.int vm), .val (.int x12), .val (.int x13), .val (.ref b970), .val (.int x15), .val (.int x16), .val (.int (x16 + vm)), .val (.int x18), .val (.int x19), .val (.long x20), .second, .val (.long x22), .second, .val (.ref b998)] []))
                                refine OGo.on (fun t k => XS.aload Xh1012.here hx rfl (hb hby at_333) rfl rfl k) ?_
                                refine OGo.on (fun t k => XS.iload Xh1012.here hx rfl (hb hby at_335) rfl k) ?_
                                refine OGo.on (fun t k => XS.iload Xh1012.here hx rfl (hb hby at_337) rfl k) ?_
                                show OGo p e below s _ _ _ (T1011.setTop (mkF m 339 #[.val (.int va), .val (.int vcnt), .val (.int vbits), .val (.int vown), .val (.int voth), .val (.int vfl), .val (.int vr1), .val (.int vs1), .val (.int vr2), .val (.int vs2), .val (.int (1 : Int32)), .val (.int vm), .val (.int x12), .val (.int x13), .val (.ref b970), .val (.int x15), .val (.int x16), .val (.int (x16 + vm)), .val (.int x18), .val (.int x19), .val (.long x20), .second, .val (.long x22), .second, .val (.ref b998)] [(.int vs1), (.int vr1), (.ref b998)]))
                                have E1050 := O1011.1
                                obtain ⟨cq1050, kq1050, q1050a, q1050b, q1050c⟩ := isOf hZ eh1011 E1050
                                obtain ⟨_, _, ⟨T1050, L1050, k1050, n1050⟩, -, X1050, ⟨Lc1050, hQ1050, l1050, y1050, z1050⟩, st1050⟩ := Xh1012.virtualBack hx (y := (⟨"com/example/slotwright/slotwright/solver/Occupancy", "add", "(II)I"⟩ : MethodName)) (z := (⟨"com/example/slotwright/slotwright/solver/Occupancy", "add", "(II)I"⟩ : MethodName)) hown (mvT hZ (hw _ (List.mem_of_getElem? (i := 36) rfl))) (mvT hZ (hw _ (List.mem_of_getElem? (i := 37) rfl))) (notFace_of_selects (args := #[]) (mvT hZ (hw _ (List.mem_of_getElem? (i := 39) rfl)))) (mvT hZ (hw _ (List.mem_of_getElem? (i := 39) rfl))) (mvT hZ (hw _ (List.mem_of_getElem? (i := 38) rfl))) (by decide) (backOf (W := 0) (own_addA l Z a0 hw [] b998 rm rw b970 rl rk [(0 : Int32), (0 : Int32), (0 : Int32), (0 : Int32), (0 : Int32), (0 : Int32)] [(1 : Int32), (1 : Int32), (1 : Int32), (1 : Int32), (1 : Int32), (1 : Int32)] [x0, x1, x2, x3, x4, x5] [(0 : Int32), (0 : Int32), (0 : Int32), (0 : Int32), (0 : Int32), (0 : Int32)] [(0 : Int32), (0 : Int32), (0 : Int32), (0 : Int32), (0 : Int32), (0 : Int32), (0 : Int32), (0 : Int32), (0 : Int32), (0 : Int32), (0 : Int32), (0 : Int32), (0 : Int32), (0 : Int32), (0 : Int32), (0 : Int32)] (0 : Int32) vr1 vs1 (1 : Int32) (0 : Int32) x19 (0 : Int32) T1011.heap n0 Z1011 hD O1011 (oat_z6 hi 1) (oat_z6 hi 0) qcx (oat_z6 hi 0) (own_nA1 hcc0) rfl rfl (by decide) (by decide) (by decide)) hZ (hw _ (List.mem_of_getElem? (i := 40) rfl)) (hw _ (List.mem_of_getElem? (i := 4) rfl)) (by decide) (by decide)) q1050a q1050c (g := (mkF m 339 #[.val (.int va), .val (.int vcnt), .val (.int vbits), .val (.int vown), .val (.int voth), .val (.int vfl), .val (.int vr1), .val (.int vs1), .val (.int vr2), .val (.int vs2), .val (.int (1 : Int32)), .val (.int vm), .val (.int x12), .val (.int x13), .val (.ref b970), .val (.int x15), .val (.int x16), .val (.int (x16 + vm)), .val (.int x18), .val (.int x19), .val (.long x20), .second, .val (.long x22), .second, .val (.ref b998)] [(.int vs1), (.int vr1), (.ref b998)])) rfl (by rw [hml]; rfl) (Steps.refl _) (argsL := [(.int vr1), (.int vs1)]) (rest := []) (lenOf own_pd1 rfl) rfl (by show 2 * 0 + _ ≤ _; exact Nat.le_of_eq rfl) (hb hby at_339) (fun _ _ => ⟨rfl, eh1011, (by decide : 6 + 0 ≤ _), (by decide : 48 + 0 ≤ _)⟩)
                                dsimp only [Pt.U, Pt.locs, Pt.cells, Pt.slots] at X1050 l1050 y1050 z1050 st1050 hQ1050
                                subst l1050 y1050 z1050
                                obtain ⟨⟨rv1050, rfl⟩, N1050q, Z1050, O1050'⟩ := hQ1050
                                have N1050 := Fr.app Nh1012 N1050q
                                have eh1050 : T1050.heap = T1050.heap := rfl
                                have O1050 : OCC Z T1050.heap b998 rm rw b970 rl rk ([(0 : Int32), (0 : Int32), (0 : Int32), (0 : Int32), (0 : Int32), (0 : Int32)].set ((vr1 * (3 : Int32)) + vs1).toNatClampNeg (1 : Int32)) [(1 : Int32), (1 : Int32), (1 : Int32), (1 : Int32), (1 : Int32), (1 : Int32)] [x0, x1, x2, x3, x4, x5] ([(0 : Int32), (0 : Int32), (0 : Int32), (0 : Int32), (0 : Int32), (0 : Int32)].set ((vr1 * (3 : Int32)) + vs1).toNatClampNeg 1) ([(0 : Int32), (0 : Int32), (0 : Int32), (0 : Int32), (0 : Int32), (0 : Int32), (0 : Int32), (0 : Int32), (0 : Int32), (0 : Int32), (0 : Int32), (0 : Int32), (0 : Int32), (0 : Int32), (0 : Int32), (0 : Int32)].set (0 : Int32).toNatClampNeg ((vr1 * (3 : Int32)) + vs1)) (1 : Int32) := O1050'
                                obtain ⟨Lh1051, Xh1051, Nh1051⟩ := own_hide X1050 N1050
                                refine OGo.on (fun t k => st1050.trans k) ?_
                                show OGo p e below s _ _ _ (T1050.setTop (mkF m 342 #[.val (.int va), .val (.int vcnt), .val (.int vbits), .val (.int vown), .val (.int voth), .val (.int vfl), .val (.int vr1), .val (.int vs1), .val (.int vr2), .val (.int vs2), .val (.int (1 : Int32)), .val (.int vm), .val (.int x12), .val (.int x13), .val (.ref b970), .val (.int x15), .val (.int x16), .val (.int (x16 + vm)), .val (.int x18), .val (.int x19), .val (.long x20), .second, .val (.long x22), .second, .val (.ref b998)] [(.int rv1050)]))
                                refine OGo.on (fun t k => XS.pop Xh1051.here hx rfl (hb hby at_342) rfl rfl k) ?_
                                refine OGo.on (fun t k => XS.iload Xh1051.here hx rfl (hb hby at_343) rfl k) ?_
                                refine OGo.on (fun t k => XS.iconst Xh1051.here hx rfl (hb hby at_345) k) ?_
                                show OGo p e below s _ _ _ (T1050.setTop (mkF m 346 #[.val (.int va), .val (.int vcnt), .val (.int vbits), .val (.int vown), .val (.int voth), .val (.int vfl), .val (.int vr1), .val (.int vs1), .val (.int vr2), .val (.int vs2), .val (.int (1 : Int32)), .val (.int vm), .val (.int x12), .val (.int x13), .val (.ref b970), .val (.int x15), .val (.int x16), .val (.int (x16 + vm)), .val (.int x18), .val (.int x19), .val (.long x20), .second, .val (.long x22), .second, .val (.ref b998)] [(.int (2 : Int32)), (.int (1 : Int32))]))
                                refine OGo.on (fun t k => XS.icmpYes Xh1051.here hx rfl (pc0 := 346) (pc' := 359) rfl (hb hby at_346) rfl (tlt (by decide)).1 (by decide) (by decide) k) ?_
                                show OGo p e below s _ _ _ (T1050.setTop (mkF m 359 #[.val (.int va), .val (.int vcnt), .val (.int vbits), .val (.int vown), .val (.int voth), .val (.int vfl), .val (.int vr1), .val (.int vs1), .val (.int vr2), .val (.int vs2), .val (.int (1 : Int32)), .val (.int vm), .val (.int x12), .val (.int x13), .val (.ref b970), .val (.int x15), .val (.int x16), .val (.int (x16 + vm)), .val (.int x18), .val (.int x19), .val (.long x20), .second, .val (.long x22), .second, .val (.ref b998)] []))
                                refine OGo.on (fun t k => XS.iload Xh1051.here hx rfl (hb hby at_359) rfl k) ?_
                                refine OGo.on (fun t k => XS.iconst Xh1051.here hx rfl (hb hby at_361) k) ?_
                                show OGo p e below s _ _ _ (T1050.setTop (mkF m 362 #[.val (.int va), .val (.int vcnt), .val (.int vbits), .val (.int vown), .val (.int voth), .val (.int vfl), .val (.int vr1), .val (.int vs1), .val (.int vr2), .val (.int vs2), .val (.int (1 : Int32)), .val (.int vm), .val (.int x12), .val (.int x13), .val (.ref b970), .val (.int x15), .val (.int x16), .val (.int (x16 + vm)), .val (.int x18), .val (.int x19), .val (.long x20), .second, .val (.long x22), .second, .val (.ref b998)] [(.int (3 : Int32)), (.int (1 : Int32))]))
                                refine OGo.on (fun t k => XS.icmpYes Xh1051.here hx rfl (pc0 := 362) (pc' := 375) rfl (hb hby at_362) rfl (tlt (by decide)).1 (by decide) (by decide) k) ?_
                                show OGo p e below s _ _ _ (T1050.setTop (mkF m 375 #[.val (.int va), .val (.int vcnt), .val (.int vbits), .val (.int vown), .val (.int voth), .val (.int vfl), .val (.int vr1), .val (.int vs1), .val (.int vr2), .val (.int vs2), .val (.int (1 : Int32)), .val (.int vm), .val (.int x12), .val (.int x13), .val (.ref b970), .val (.int x15), .val (.int x16), .val (.int (x16 + vm)), .val (.int x18), .val (.int x19), .val (.long x20), .second, .val (.long x22), .second, .val (.ref b998)] []))
                                exact J375 T1050 _ T1050.heap ([(0 : Int32), (0 : Int32), (0 : Int32), (0 : Int32), (0 : Int32), (0 : Int32)].set ((vr1 * (3 : Int32)) + vs1).toNatClampNeg (1 : Int32)) ([(0 : Int32), (0 : Int32), (0 : Int32), (0 : Int32), (0 : Int32), (0 : Int32)].set ((vr1 * (3 : Int32)) + vs1).toNatClampNeg 1) ([(0 : Int32), (0 : Int32), (0 : Int32), (0 : Int32), (0 : Int32), (0 : Int32), (0 : Int32), (0 : Int32), (0 : Int32), (0 : Int32), (0 : Int32), (0 : Int32), (0 : Int32), (0 : Int32), (0 : Int32), (0 : Int32)].set (0 : Int32).toNatClampNeg ((vr1 * (3 : Int32)) + vs1)) (1 : Int32) (1 : Int32) Xh1051 Nh1051 eh1050 Z1050 O1050 (oat_same (oat_z6 hi 0) _) (fun hne => (oat_other (oat_z6 hj 0) _ hi hj hne)) (oat_same (oat_z6 hi 0) _) (fun hne => oat_other (oat_z6 hj 0) _ hi hj hne) rfl (Or.inr ⟨rfl, rfl, ⟨by decide, rfl⟩, (own_L1' hcc0)⟩)
                            · have hkk : True := trivial
                              show OGo p e below s _ _ _ (T1011.setTop (mkF m 327 #[.val (.int va), .val (.int vcnt), .val (.int vbits), .val (.int vown), .val (.int voth), .val (.int vfl), .val (.int vr1), .val (.int vs1), .val (.int vr2), .val (.int vs2), .val (.int (2 : Int32)), .val (.int vm), .val (.int x12), .val (.int x13), .val (.ref b970), .val (.int x15), .val (.int x16), .val (.int (x16 + vm)), .val (.int x18), .val (.int x19), .val (.long x20), .second, .val (.long x22), .second, .val (.ref b998)] []))
                              by_cases hci : x19 = 0
                              · have hcc0 := hci
                                refine OGo.on (fun t k => XS.iload Xh1012.here hx rfl (hb hby at_327) rfl k) ?_
                                refine OGo.on (fun t k => XS.iconst Xh1012.here hx rfl (hb hby at_329) k) ?_
                                show OGo p e below s _ _ _ (T1011.setTop (mkF m 330 #[.val (.int va), .val (.int vcnt), .val (.int vbits), .val (.int vown), .val (.int voth), .val (.int vfl), .val (.int vr1), .val (.int vs1), .val (.int vr2), .val (.int vs2), .val (.int (2 : Int32)), .val (.int vm), .val (.int x12), .val (.int x13), .val (.ref b970), .val (.int x15), .val (.int x16), .val (.int (x16 + vm)), .val (.int x18), .val (.int x19), .val (.long x20), .second, .val (.long x22), .second, .val (.ref b998)] [(.int (1 : Int32)), (.int (2 : Int32))]))
                                refine OGo.on (fun t k => XS.icmpNo Xh1012.here hx rfl (hb hby at_330) rfl (flt (by decide)).1 k) ?_
                                show OGo p e below s _ _ _ (T1011.setTop (mkF m 333 #[.val (.int va), .val (.int vcnt), .val (.int vbits), .val (.int vown), .val (.int voth), .val (.int vfl), .val (.int vr1), .val (.int vs1), .val (.int vr2), .val (.int vs2), .val (.int (2 : Int32)), .val (.int vm), .val (.int x12), .val (.int x13), .val (.ref b970), .val (.int x15), .val (.int x16), .val (.int (x16 + vm)), .val (.int x18), .val (.int x19), .val (.long x20), .second, .val (.long x22), .second, .val (.ref b998)] []))
                                refine OGo.on (fun t k => XS.aload Xh1012.here hx rfl (hb hby at_333) rfl rfl k) ?_
                                refine OGo.on (fun t k => XS.iload Xh1012.here hx rfl (hb hby at_335) rfl k) ?_
                                refine OGo.on (fun t k => XS.iload Xh1012.here hx rfl (hb hby at_337) rfl k) ?_
                                show OGo p e below s _ _ _ (T1011.setTop (mkF m 339 #[.val (.int va), .val (.int vcnt), .val (.int vbits), .val (.int vown), .val (.int voth), .val (.int vfl), .val (.int vr1), .val (.int vs1), .val (.int vr2), .val (.int vs2), .val (.int (2 : Int32)), .val (.int vm), .val (.int x12), .val (.int x13), .val (.ref b970), .val (.int x15), .val (.int x16), .val (.int (x16 + vm)), .val (.int x18), .val (.int x19), .val (.long x20), .second, .val (.long x22), .second, .val (.ref b998)] [(.int vs1), (.int vr1), (.ref b998)]))
                                have E1052 := O1011.1
                                obtain ⟨cq1052, kq1052, q1052a, q1052b, q1052c⟩ := isOf hZ eh1011 E1052
                                obtain ⟨_, _, ⟨T1052, L1052, k1052, n1052⟩, -, X1052, ⟨Lc1052, hQ1052, l1052, y1052, z1052⟩, st1052⟩ := Xh1012.virtualBack hx (y := (⟨"com/example/slotwright/slotwright/solver/Occupancy", "add", "(II)I"⟩ : MethodName)) (z := (⟨"com/example/slotwright/slotwright/solver/Occupancy", "add", "(II)I"⟩ : MethodName)) hown (mvT hZ (hw _ (List.mem_of_getElem? (i := 36) rfl))) (mvT hZ (hw _ (List.mem_of_getElem? (i := 37) rfl))) (notFace_of_selects (args := #[]) (mvT hZ (hw _ (List.mem_of_getElem? (i := 39) rfl)))) (mvT hZ (hw _ (List.mem_of_getElem? (i := 39) rfl))) (mvT hZ (hw _ (List.mem_of_getElem? (i := 38) rfl))) (by decide) (backOf (W := 0) (own_addB l Z a0 hw [] b998 rm rw b970 rl rk [(0 : Int32), (0 : Int32), (0 : Int32), (0 : Int32), (0 : Int32), (0 : Int32)] [(1 : Int32), (1 : Int32), (1 : Int32), (1 : Int32), (1 : Int32), (1 : Int32)] [x0, x1, x2, x3, x4, x5] [(0 : Int32), (0 : Int32), (0 : Int32), (0 : Int32), (0 : Int32), (0 : Int32)] [(0 : Int32), (0 : Int32), (0 : Int32), (0 : Int32), (0 : Int32), (0 : Int32), (0 : Int32), (0 : Int32), (0 : Int32), (0 : Int32), (0 : Int32), (0 : Int32), (0 : Int32), (0 : Int32), (0 : Int32), (0 : Int32)] (0 : Int32) vr1 vs1 (1 : Int32) (0 : Int32) x19 (0 : Int32) T1011.heap n0 Z1011 hD O1011 (oat_z6 hi 1) (oat_z6 hi 0) qcx (oat_z6 hi 0) (Or.inl (own_nB1 hcc0))) hZ (hw _ (List.mem_of_getElem? (i := 40) rfl)) (hw _ (List.mem_of_getElem? (i := 4) rfl)) (by decide) (by decide)) q1052a q1052c (g := (mkF m 339 #[.val (.int va), .val (.int vcnt), .val (.int vbits), .val (.int vown), .val (.int voth), .val (.int vfl), .val (.int vr1), .val (.int vs1), .val (.int vr2), .val (.int vs2), .val (.int (2 : Int32)), .val (.int vm), .val (.int x12), .val (.int x13), .val (.ref b970), .val (.int x15), .val (.int x16), .val (.int (x16 + vm)), .val (.int x18), .val (.int x19), .val (.long x20), .second, .val (.long x22), .second, .val (.ref b998)] [(.int vs1), (.int vr1), (.ref b998)])) rfl (by rw [hml]; rfl) (Steps.refl _) (argsL := [(.int vr1), (.int vs1)]) (rest := []) (lenOf own_pd1 rfl) rfl (by show 2 * 0 + _ ≤ _; exact Nat.le_of_eq rfl) (hb hby at_339) (fun _ _ => ⟨rfl, eh1011, (by decide : 6 + 0 ≤ _), (by decide : 48 + 0 ≤ _)⟩)
                                dsimp only [Pt.U, Pt.locs, Pt.cells, Pt.slots] at X1052 l1052 y1052 z1052 st1052 hQ1052
                                subst l1052 y1052 z1052
                                obtain ⟨⟨rv1052, rfl⟩, N1052q, Z1052, O1052'⟩ := hQ1052
                                have N1052 := Fr.app Nh1012 N1052q
                                have eh1052 : T1052.heap = T1052.heap := rfl
                                have O1052 : OCC Z T1052.heap b998 rm rw b970 rl rk ([(0 : Int32), (0 : Int32), (0 : Int32), (0 : Int32), (0 : Int32), (0 : Int32)].set ((vr1 * (3 : Int32)) + vs1).toNatClampNeg (1 : Int32)) [(1 : Int32), (1 : Int32), (1 : Int32), (1 : Int32), (1 : Int32), (1 : Int32)] [x0, x1, x2, x3, x4, x5] [(0 : Int32), (0 : Int32), (0 : Int32), (0 : Int32), (0 : Int32), (0 : Int32)] [(0 : Int32), (0 : Int32), (0 : Int32), (0 : Int32), (0 : Int32), (0 : Int32), (0 : Int32), (0 : Int32), (0 : Int32), (0 : Int32), (0 : Int32), (0 : Int32), (0 : Int32), (0 : Int32), (0 : Int32), (0 : Int32)] (0 : Int32) := O1052'
                                obtain ⟨Lh1053, Xh1053, Nh1053⟩ := own_hide X1052 N1052
                                refine OGo.on (fun t k => st1052.trans k) ?_
                                show OGo p e below s _ _ _ (T1052.setTop (mkF m 342 #[.val (.int va), .val (.int vcnt), .val (.int vbits), .val (.int vown), .val (.int voth), .val (.int vfl), .val (.int vr1), .val (.int vs1), .val (.int vr2), .val (.int vs2), .val (.int (2 : Int32)), .val (.int vm), .val (.int x12), .val (.int x13), .val (.ref b970), .val (.int x15), .val (.int x16), .val (.int (x16 + vm)), .val (.int x18), .val (.int x19), .val (.long x20), .second, .val (.long x22), .second, .val (.ref b998)] [(.int rv1052)]))
                                refine OGo.on (fun t k => XS.pop Xh1053.here hx rfl (hb hby at_342) rfl rfl k) ?_
                                refine OGo.on (fun t k => XS.iload Xh1053.here hx rfl (hb hby at_343) rfl k) ?_
                                refine OGo.on (fun t k => XS.iconst Xh1053.here hx rfl (hb hby at_345) k) ?_
                                show OGo p e below s _ _ _ (T1052.setTop (mkF m 346 #[.val (.int va), .val (.int vcnt), .val (.int vbits), .val (.int vown), .val (.int voth), .val (.int vfl), .val (.int vr1), .val (.int vs1), .val (.int vr2), .val (.int vs2), .val (.int (2 : Int32)), .val (.int vm), .val (.int x12), .val (.int x13), .val (.ref b970), .val (.int x15), .val (.int x16), .val (.int (x16 + vm)), .val (.int x18), .val (.int x19), .val (.long x20), .second, .val (.long x22), .second, .val (.ref b998)] [(.int (2 : Int32)), (.int (2 : Int32))]))
                                refine OGo.on (fun t k => XS.icmpNo Xh1053.here hx rfl (hb hby at_346) rfl (flt (by decide)).1 k) ?_
                                show OGo p e below s _ _ _ (T1052.setTop (mkF m 349 #[.val (.int va), .val (.int vcnt), .val (.int vbits), .val (.int vown), .val (.int voth), .val (.int vfl), .val (.int vr1), .val (.int vs1), .val (.int vr2), .val (.int vs2), .val (.int (2 : Int32)), .val (.int vm), .val (.int x12), .val (.int x13), .val (.ref b970), .val (.int x15), .val (.int x16), .val (.int (x16 + vm)), .val (.int x18), .val (.int x19), .val (.long x20), .second, .val (.long x22), .second, .val (.ref b998)] []))
                                refine OGo.on (fun t k => XS.aload Xh1053.here hx rfl (hb hby at_349) rfl rfl k) ?_
                                refine OGo.on (fun t k => XS.iload Xh1053.here hx rfl (hb hby at_351) rfl k) ?_
                                refine OGo.on (fun t k => XS.iload Xh1053.here hx rfl (hb hby at_353) rfl k) ?_
                                show OGo p e below s _ _ _ (T1052.setTop (mkF m 355 #[.val (.int va), .val (.int vcnt), .val (.int vbits), .val (.int vown), .val (.int voth), .val (.int vfl), .val (.int vr1), .val (.int vs1), .val (.int vr2), .val (.int vs2), .val (.int (2 : Int32)), .val (.int vm), .val (.int x12), .val (.int x13), .val (.ref b970), .val (.int x15), .val (.int x16), .val (.int (x16 + vm)), .val (.int x18), .val (.int x19), .val (.long x20), .second, .val (.long x22), .second, .val (.ref b998)] [(.int vs1), (.int vr1), (.ref b998)]))
                                have E1054 := O1052.1
                                obtain ⟨cq1054, kq1054, q1054a, q1054b, q1054c⟩ := isOf hZ eh1052 E1054
                                obtain ⟨_, _, ⟨T1054, L1054, k1054, n1054⟩, -, X1054, ⟨Lc1054, hQ1054, l1054, y1054, z1054⟩, st1054⟩ := Xh1053.virtualBack hx (y := (⟨"com/example/slotwright/slotwright/solver/Occupancy", "add", "(II)I"⟩ : MethodName)) (z := (⟨"com/example/slotwright/slotwright/solver/Occupancy", "add", "(II)I"⟩ : MethodName)) hown (mvT hZ (hw _ (List.mem_of_getElem? (i := 36) rfl))) (mvT hZ (hw _ (List.mem_of_getElem? (i := 37) rfl))) (notFace_of_selects (args := #[]) (mvT hZ (hw _ (List.mem_of_getElem? (i := 39) rfl)))) (mvT hZ (hw _ (List.mem_of_getElem? (i := 39) rfl))) (mvT hZ (hw _ (List.mem_of_getElem? (i := 38) rfl))) (by decide) (backOf (W := 0) (own_addA l Z a0 hw [] b998 rm rw b970 rl rk ([(0 : Int32), (0 : Int32), (0 : Int32), (0 : Int32), (0 : Int32), (0 : Int32)].set ((vr1 * (3 : Int32)) + vs1).toNatClampNeg (1 : Int32)) [(1 : Int32), (1 : Int32), (1 : Int32), (1 : Int32), (1 : Int32), (1 : Int32)] [x0, x1, x2, x3, x4, x5] [(0 : Int32), (0 : Int32), (0 : Int32), (0 : Int32), (0 : Int32), (0 : Int32)] [(0 : Int32), (0 : Int32), (0 : Int32), (0 : Int32), (0 : Int32), (0 : Int32), (0 : Int32), (0 : Int32), (0 : Int32), (0 : Int32), (0 : Int32), (0 : Int32), (0 : Int32), (0 : Int32), (0 : Int32), (0 : Int32)] (0 : Int32) vr1 vs1 (1 : Int32) (1 : Int32) x19 (0 : Int32) T1052.heap n0 Z1052 hD O1052 (oat_z6 hi 1) (oat_same (oat_z6 hi 0) _) qcx (oat_z6 hi 0) (own_nA2 x19) rfl rfl (by decide) (by decide) (by decide)) hZ (hw _ (List.mem_of_getElem? (i := 40) rfl)) (hw _ (List.mem_of_getElem? (i := 4) rfl)) (by decide) (by decide)) q1054a q1054c (g := (mkF m 355 #[.val (.int va), .val (.int vcnt), .val (.int vbits), .val (.int vown), .val (.int voth), .val (.int vfl), .val (.int vr1), .val (.int vs1), .val (.int vr2), .val (.int vs2), .val (.int (2 : Int32)), .val (.int vm), .val (.int x12), .val (.int x13), .val (.ref b970), .val (.int x15), .val (.int x16), .val (.int (x16 + vm)), .val (.int x18), .val (.int x19), .val (.long x20), .second, .val (.long x22), .second, .val (.ref b998)] [(.int vs1), (.int vr1), (.ref b998)])) rfl (by rw [hml]; rfl) (Steps.refl _) (argsL := [(.int vr1), (.int vs1)]) (rest := []) (lenOf own_pd1 rfl) rfl (by show 2 * 0 + _ ≤ _; exact Nat.le_of_eq rfl) (hb hby at_355) (fun _ _ => ⟨rfl, eh1052, (by decide : 6 + 0 ≤ _), (by decide : 48 + 0 ≤ _)⟩)
                                dsimp only [Pt.U, Pt.locs, Pt.cells, Pt.slots] at X1054 l1054 y1054 z1054 st1054 hQ1054
                                subst l1054 y1054 z1054
                                obtain ⟨⟨rv1054, rfl⟩, N1054q, Z1054, O1054'⟩ := hQ1054
                                have N1054 := Fr.app Nh1053 N1054q
                                have eh1054 : T1054.heap = T1054.heap := rfl
                                have O1054 : OCC Z T1054.heap b998 rm rw b970 rl rk (([(0 : Int32), (0 : Int32), (0 : Int32), (0 : Int32), (0 : Int32), (0 : Int32)].set ((vr1 * (3 : Int32)) + vs1).toNatClampNeg (1 : Int32)).set ((vr1 * (3 : Int32)) + vs1).toNatClampNeg (2 : Int32)) [(1 : Int32), (1 : Int32), (1 : Int32), (1 : Int32), (1 : Int32), (1 : Int32)] [x0, x1, x2, x3, x4, x5] ([(0 : Int32), (0 : Int32), (0 : Int32), (0 : Int32), (0 : Int32), (0 : Int32)].set ((vr1 * (3 : Int32)) + vs1).toNatClampNeg 1) ([(0 : Int32), (0 : Int32), (0 : Int32), (0 : Int32), (0 : Int32), (0 : Int32), (0 : Int32), (0 : Int32), (0 : Int32), (0 : Int32), (0 : Int32), (0 : Int32), (0 : Int32), (0 : Int32), (0 : Int32), (0 : Int32)].set (0 : Int32).toNatClampNeg ((vr1 * (3 : Int32)) + vs1)) (1 : Int32) := O1054'
                                obtain ⟨Lh1055, Xh1055, Nh1055⟩ := own_hide X1054 N1054
                                refine OGo.on (fun t k => st1054.trans k) ?_
                                show OGo p e below s _ _ _ (T1054.setTop (mkF m 358 #[.val (.int va), .val (.int vcnt), .val (.int vbits), .val (.int vown), .val (.int voth), .val (.int vfl), .val (.int vr1), .val (.int vs1), .val (.int vr2), .val (.int vs2), .val (.int (2 : Int32)), .val (.int vm), .val (.int x12), .val (.int x13), .val (.ref b970), .val (.int x15), .val (.int x16), .val (.int (x16 + vm)), .val (.int x18), .val (.int x19), .val (.long x20), .second, .val (.long x22), .second, .val (.ref b998)] [(.int rv1054)]))
                                refine OGo.on (fun t k => XS.pop Xh1055.here hx rfl (hb hby at_358) rfl rfl k) ?_
                                refine OGo.on (fun t k => XS.iload Xh1055.here hx rfl (hb hby at_359) rfl k) ?_
                                refine OGo.on (fun t k => XS.iconst Xh1055.here hx rfl (hb hby at_361) k) ?_
                                show OGo p e below s _ _ _ (T1054.setTop (mkF m 362 #[.val (.int va), .val (.int vcnt), .val (.int vbits), .val (.int vown), .val (.int voth), .val (.int vfl), .val (.int vr1), .val (.int vs1), .val (.int vr2), .val (.int vs2), .val (.int (2 : Int32)), .val (.int vm), .val (.int x12), .val (.int x13), .val (.ref b970), .val (.int x15), .val (.int x16), .val (.int (x16 + vm)), .val (.int x18), .val (.int x19), .val (.long x20), .second, .val (.long x22), .second, .val (.ref b998)] [(.int (3 : Int32)), (.int (2 : Int32))]))
                                refine OGo.on (fun t k => XS.icmpYes Xh1055.here hx rfl (pc0 := 362) (pc' := 375) rfl (hb hby at_362) rfl (tlt (by decide)).1 (by decide) (by decide) k) ?_
                                show OGo p e below s _ _ _ (T1054.setTop (mkF m 375 #[.val (.int va), .val (.int vcnt), .val (.int vbits), .val (.int vown), .val (.int voth), .val (.int vfl), .val (.int vr1), .val (.int vs1), .val (.int vr2), .val (.int vs2), .val (.int (2 : Int32)), .val (.int vm), .val (.int x12), .val (.int x13), .val (.ref b970), .val (.int x15), .val (.int x16), .val (.int (x16 + vm)), .val (.int x18), .val (.int x19), .val (.long x20), .second, .val (.long x22), .second, .val (.ref b998)] []))
                                exact J375 T1054 _ T1054.heap (([(0 : Int32), (0 : Int32), (0 : Int32), (0 : Int32), (0 : Int32), (0 : Int32)].set ((vr1 * (3 : Int32)) + vs1).toNatClampNeg (1 : Int32)).set ((vr1 * (3 : Int32)) + vs1).toNatClampNeg (2 : Int32)) ([(0 : Int32), (0 : Int32), (0 : Int32), (0 : Int32), (0 : Int32), (0 : Int32)].set ((vr1 * (3 : Int32)) + vs1).toNatClampNeg 1) ([(0 : Int32), (0 : Int32), (0 : Int32), (0 : Int32), (0 : Int32), (0 : Int32), (0 : Int32), (0 : Int32), (0 : Int32), (0 : Int32), (0 : Int32), (0 : Int32), (0 : Int32), (0 : Int32), (0 : Int32), (0 : Int32)].set (0 : Int32).toNatClampNeg ((vr1 * (3 : Int32)) + vs1)) (1 : Int32) (1 : Int32) Xh1055 Nh1055 eh1054 Z1054 O1054 (oat_same (oat_same (oat_z6 hi 0) _) _) (fun hne => (oat_other (oat_other (oat_z6 hj 0) _ hi hj hne) _ hi hj hne)) (oat_same (oat_z6 hi 0) _) (fun hne => oat_other (oat_z6 hj 0) _ hi hj hne) rfl (Or.inr ⟨rfl, rfl, ⟨by decide, rfl⟩, (own_L2 _)⟩)
                              · have hcc0 := hci
                                refine OGo.on (fun t k => XS.iload Xh1012.here hx rfl (hb hby at_327) rfl k) ?_
                                refine OGo.on (fun t k => XS.iconst Xh1012.here hx rfl (hb hby at_329) k) ?_
                                show OGo p e below s _ _ _ (T1011.setTop (mkF m 330 #[.val (.int va), .val (.int vcnt), .val (.int vbits), .val (.int vown), .val (.int voth), .val (.int vfl), .val (.int vr1), .val (.int vs1), .val (.int vr2), .val (.int vs2), .val (.int (2 : Int32)), .val (.int vm), .val (.int x12), .val (.int x13), .val (.ref b970), .val (.int x15), .val (.int x16), .val (.int (x16 + vm)), .val (.int x18), .val (.int x19), .val (.long x20), .second, .val (.long x22), .second, .val (.ref b998)] [(.int (1 : Int32)), (.int (2 : Int32))]))
                                refine OGo.on (fun t k => XS.icmpNo Xh1012.here hx rfl (hb hby at_330) rfl (flt (by decide)).1 k) ?_
                                show OGo p e below s _ _ _ (T1011.setTop (mkF m 333 #[.val (.int va), .val (.int vcnt), .val (.int vbits), .val (.int vown), .val (.int voth), .val (.int vfl), .val (.int vr1), .val (.int vs1), .val (.int vr2), .val (.int vs2), .val (.int (2 : Int32)), .val (.int vm), .val (.int x12), .val (.int x13), .val (.ref b970), .val (.int x15), .val (.int x16), .val (.int (x16 + vm)), .val (.int x18), .val (.int x19), .val (.long x20), .second, .val (.long x22), .second, .val (.ref b998)] []))
                                refine OGo.on (fun t k => XS.aload Xh1012.here hx rfl (hb hby at_333) rfl rfl k) ?_
                                refine OGo.on (fun t k => XS.iload Xh1012.here hx rfl (hb hby at_335) rfl k) ?_
                                refine OGo.on (fun t k => XS.iload Xh1012.here hx rfl (hb hby at_337) rfl k) ?_
                                show OGo p e below s _ _ _ (T1011.setTop (mkF m 339 #[.val (.int va), .val (.int vcnt), .val (.int vbits), .val (.int vown), .val (.int voth), .val (.int vfl), .val (.int vr1), .val (.int vs1), .val (.int vr2), .val (.int vs2), .val (.int (2 : Int32)), .val (.int vm), .val (.int x12), .val (.int x13), .val (.ref b970), .val (.int x15), .val (.int x16), .val (.int (x16 + vm)), .val (.int x18), .val (.int x19), .val (.long x20), .second, .val (.long x22), .second, .val (.ref b998)] [(.int vs1), (.int vr1), (.ref b998)]))
                                have E1056 := O1011.1
                                obtain ⟨cq1056, kq1056, q1056a, q1056b, q1056c⟩ := isOf hZ eh1011 E1056
                                obtain ⟨_, _, ⟨T1056, L1056, k1056, n1056⟩, -, X1056, ⟨Lc1056, hQ1056, l1056, y1056, z1056⟩, st1056⟩ := Xh1012.virtualBack hx (y := (⟨"com/example/slotwright/slotwright/solver/Occupancy", "add", "(II)I"⟩ : MethodName)) (z := (⟨"com/example/slotwright/slotwright/solver/Occupancy", "add", "(II)I"⟩ : MethodName)) hown (mvT hZ (hw _ (List.mem_of_getElem? (i := 36) rfl))) (mvT hZ (hw _ (List.mem_of_getElem? (i := 37) rfl))) (notFace_of_selects (args := #[]) (mvT hZ (hw _ (List.mem_of_getElem? (i := 39) rfl)))) (mvT hZ (hw _ (List.mem_of_getElem? (i := 39) rfl))) (mvT hZ (hw _ (List.mem_of_getElem? (i := 38) rfl))) (by decide) (backOf (W := 0) (own_addA l Z a0 hw [] b998 rm rw b970 rl rk [(0 : Int32), (0 : Int32), (0 : Int32), (0 : Int32), (0 : Int32), (0 : Int32)] [(1 : Int32), (1 : Int32), (1 : Int32), (1 : Int32), (1 : Int32), (1 : Int32)] [x0, x1, x2, x3, x4, x5] [(0 : Int32), (0 : Int32), (0 : Int32), (0 : Int32), (0 : Int32), (0 : Int32)] [(0 : Int32), (0 : Int32), (0 : Int32), (0 : Int32), (0 : Int32), (0 : Int32), (0 : Int32), (0 : Int32), (0 : Int32), (0 : Int32), (0 : Int32), (0 : Int32), (0 : Int32), (0 : Int32), (0 : Int32), (0 : Int32)] (0 : Int32) vr1 vs1 (1 : Int32) (0 : Int32) x19 (0 : Int32) T1011.heap n0 Z1011 hD O1011 (oat_z6 hi 1) (oat_z6 hi 0) qcx (oat_z6 hi 0) (own_nA1 hcc0) rfl rfl (by decide) (by decide) (by decide)) hZ (hw _ (List.mem_of_getElem? (i := 40) rfl)) (hw _ (List.mem_of_getElem? (i := 4) rfl)) (by decide) (by decide)) q1056a q1056c (g := (mkF m 339 #[.val (.int va), .val (.int vcnt), .val (.int vbits), .val (.int vown), .val (.int voth), .val (.int vfl), .val (.int vr1), .val (.int vs1), .val (.int vr2), .val (.int vs2), .val (.int (2 : Int32)), .val (.int vm), .val (.int x12), .val (.int x13), .val (.ref b970), .val (.int x15), .val (.int x16), .val (.int (x16 + vm)), .val (.int x18), .val (.int x19), .val (.long x20), .second, .val (.long x22), .second, .val (.ref b998)] [(.int vs1), (.int vr1), (.ref b998)])) rfl (by rw [hml]; rfl) (Steps.refl _) (argsL := [(.int vr1), (.int vs1)]) (rest := []) (lenOf own_pd1 rfl) rfl (by show 2 * 0 + _ ≤ _; exact Nat.le_of_eq rfl) (hb hby at_339) (fun _ _ => ⟨rfl, eh1011, (by decide : 6 + 0 ≤ _), (by decide : 48 + 0 ≤ _)⟩)
                                dsimp only [Pt.U, Pt.locs, Pt.cells, Pt.slots] at X1056 l1056 y1056 z1056 st1056 hQ1056
                                subst l1056 y1056 z1056
                                obtain ⟨⟨rv1056, rfl⟩, N1056q, Z1056, O1056'⟩ := hQ1056
                                have N1056 := Fr.app Nh1012 N1056q
                                have eh1056 : T1056.heap = T1056.heap := rfl
                                have O1056 : OCC Z T1056.heap b998 rm rw b970 rl rk ([(0 : Int32), (0 : Int32), (0 : Int32), (0 : Int32), (0 : Int32), (0 : Int32)].set ((vr1 * (3 : Int32)) + vs1).toNatClampNeg (1 : Int32)) [(1 : Int32), (1 : Int32), (1 : Int32), (1 : Int32), (1 : Int32), (1 : Int32)] [x0, x1, x2, x3, x4, x5] ([(0 : Int32), (0 : Int32), (0 : Int32), (0 : Int32), (0 : Int32), (0 : Int32)].set ((vr1 * (3 : Int32)) + vs1).toNatClampNeg 1) ([(0 : Int32), (0 : Int32), (0 : Int32), (0 : Int32), (0 : Int32), (0 : Int32), (0 : Int32), (0 : Int32), (0 : Int32), (0 : Int32), (0 : Int32), (0 : Int32), (0 : Int32), (0 : Int32), (0 : Int32), (0 : Int32)].set (0 : Int32).toNatClampNeg ((vr1 * (3 : Int32)) + vs1)) (1 : Int32) := O1056'
                                obtain ⟨Lh1057, Xh1057, Nh1057⟩ := own_hide X1056 N1056
                                refine OGo.on (fun t k => st1056.trans k) ?_
                                show OGo p e below s _ _ _ (T1056.setTop (mkF m 342 #[.val (.int va), .val (.int vcnt), .val (.int vbits), .val (.int vown), .val (.int voth), .val (.int vfl), .val (.int vr1), .val (.int vs1), .val (.int vr2), .val (.int vs2), .val (.int (2 : Int32)), .val (.int vm), .val (.int x12), .val (.int x13), .val (.ref b970), .val (.int x15), .val (.int x16), .val (.int (x16 + vm)), .val (.int x18), .val (.int x19), .val (.long x20), .second, .val (.long x22), .second, .val (.ref b998)] [(.int rv1056)]))
                                refine OGo.on (fun t k => XS.pop Xh1057.here hx rfl (hb hby at_342) rfl rfl k) ?_
                                refine OGo.on (fun t k => XS.iload Xh1057.here hx rfl (hb hby at_343) rfl k) ?_
                                refine OGo.on (fun t k => XS.iconst Xh1057.here hx rfl (hb hby at_345) k) ?_
                                show OGo p e below s _ _ _ (T1056.setTop (mkF m 346 #[.val (.int va), .val (.int vcnt), .val (.int vbits), .val (.int vown), .val (.int voth), .val (.int vfl), .val (.int vr1), .val (.int vs1), .val (.int vr2), .val (.int vs2), .val (.int (2 : Int32)), .val (.int vm), .val (.int x12), .val (.int x13), .val (.ref b970), .val (.int x15), .val (.int x16), .val (.int (x16 + vm)), .val (.int x18), .val (.int x19), .val (.long x20), .second, .val (.long x22), .second, .val (.ref b998)] [(.int (2 : Int32)), (.int (2 : Int32))]))
                                refine OGo.on (fun t k => XS.icmpNo Xh1057.here hx rfl (hb hby at_346) rfl (flt (by decide)).1 k) ?_
                                show OGo p e below s _ _ _ (T1056.setTop (mkF m 349 #[.val (.int va), .val (.int vcnt), .val (.int vbits), .val (.int vown), .val (.int voth), .val (.int vfl), .val (.int vr1), .val (.int vs1), .val (.int vr2), .val (.int vs2), .val (.int (2 : Int32)), .val (.int vm), .val (.int x12), .val (.int x13), .val (.ref b970), .val (.int x15), .val (.int x16), .val (.int (x16 + vm)), .val (.int x18), .val (.int x19), .val (.long x20), .second, .val (.long x22), .second, .val (.ref b998)] []))
                                refine OGo.on (fun t k => XS.aload Xh1057.here hx rfl (hb hby at_349) rfl rfl k) ?_
                                refine OGo.on (fun t k => XS.iload Xh1057.here hx rfl (hb hby at_351) rfl k) ?_
                                refine OGo.on (fun t k => XS.iload Xh1057.here hx rfl (hb hby at_353) rfl k) ?_
                                show OGo p e below s _ _ _ (T1056.setTop (mkF m 355 #[.val (.int va), .val (.int vcnt), .val (.int vbits), .val (.int vown), .val (.int voth), .val (.int vfl), .val (.int vr1), .val (.int vs1), .val (.int vr2), .val (.int vs2), .val (.int (2 : Int32)), .val (.int vm), .val (.int x12), .val (.int x13), .val (.ref b970), .val (.int x15), .val (.int x16), .val (.int (x16 + vm)), .val (.int x18), .val (.int x19), .val (.long x20), .second, .val (.long x22), .second, .val (.ref b998)] [(.int vs1), (.int vr1), (.ref b998)]))
                                have E1058 := O1056.1
                                obtain ⟨cq1058, kq1058, q1058a, q1058b, q1058c⟩ := isOf hZ eh1056 E1058
                                obtain ⟨_, _, ⟨T1058, L1058, k1058, n1058⟩, -, X1058, ⟨Lc1058, hQ1058, l1058, y1058, z1058⟩, st1058⟩ := Xh1057.virtualBack hx (y := (⟨"com/example/slotwright/slotwright/solver/Occupancy", "add", "(II)I"⟩ : MethodName)) (z := (⟨"com/example/slotwright/slotwright/solver/Occupancy", "add", "(II)I"⟩ : MethodName)) hown (mvT hZ (hw _ (List.mem_of_getElem? (i := 36) rfl))) (mvT hZ (hw _ (List.mem_of_getElem? (i := 37) rfl))) (notFace_of_selects (args := #[]) (mvT hZ (hw _ (List.mem_of_getElem? (i := 39) rfl)))) (mvT hZ (hw _ (List.mem_of_getElem? (i := 39) rfl))) (mvT hZ (hw _ (List.mem_of_getElem? (i := 38) rfl))) (by decide) (backOf (W := 0) (own_addB l Z a0 hw [] b998 rm rw b970 rl rk ([(0 : Int32), (0 : Int32), (0 : Int32), (0 : Int32), (0 : Int32), (0 : Int32)].set ((vr1 * (3 : Int32)) + vs1).toNatClampNeg (1 : Int32)) [(1 : Int32), (1 : Int32), (1 : Int32), (1 : Int32), (1 : Int32), (1 : Int32)] [x0, x1, x2, x3, x4, x5] ([(0 : Int32), (0 : Int32), (0 : Int32), (0 : Int32), (0 : Int32), (0 : Int32)].set ((vr1 * (3 : Int32)) + vs1).toNatClampNeg 1) ([(0 : Int32), (0 : Int32), (0 : Int32), (0 : Int32), (0 : Int32), (0 : Int32), (0 : Int32), (0 : Int32), (0 : Int32), (0 : Int32), (0 : Int32), (0 : Int32), (0 : Int32), (0 : Int32), (0 : Int32), (0 : Int32)].set (0 : Int32).toNatClampNeg ((vr1 * (3 : Int32)) + vs1)) (1 : Int32) vr1 vs1 (1 : Int32) (1 : Int32) x19 (1 : Int32) T1056.heap n0 Z1056 hD O1056 (oat_z6 hi 1) (oat_same (oat_z6 hi 0) _) qcx (oat_same (oat_z6 hi 0) _) (Or.inr (by decide))) hZ (hw _ (List.mem_of_getElem? (i := 40) rfl)) (hw _ (List.mem_of_getElem? (i := 4) rfl)) (by decide) (by decide)) q1058a q1058c (g := (mkF m 355 #[.val (.int va), .val (.int vcnt), .val (.int vbits), .val (.int vown), .val (.int voth), .val (.int vfl), .val (.int vr1), .val (.int vs1), .val (.int vr2), .val (.int vs2), .val (.int (2 : Int32)), .val (.int vm), .val (.int x12), .val (.int x13), .val (.ref b970), .val (.int x15), .val (.int x16), .val (.int (x16 + vm)), .val (.int x18), .val (.int x19), .val (.long x20), .second, .val (.long x22), .second, .val (.ref b998)] [(.int vs1), (.int vr1), (.ref b998)])) rfl (by rw [hml]; rfl) (Steps.refl _) (argsL := [(.int vr1), (.int vs1)]) (rest := []) (lenOf own_pd1 rfl) rfl (by show 2 * 0 + _ ≤ _; exact Nat.le_of_eq rfl) (hb hby at_355) (fun _ _ => ⟨rfl, eh1056, (by decide : 6 + 0 ≤ _), (by decide : 48 + 0 ≤ _)⟩)
                                dsimp only [Pt.U, Pt.locs, Pt.cells, Pt.slots] at X1058 l1058 y1058 z1058 st1058 hQ1058
                                subst l1058 y1058 z1058
                                obtain ⟨⟨rv1058, rfl⟩, N1058q, Z1058, O1058'⟩ := hQ1058
                                have N1058 := Fr.app Nh1057 N1058q
                                have eh1058 : T1058.heap = T1058.heap := rfl
                                have O1058 : OCC Z T1058.heap b998 rm rw b970 rl rk (([(0 : Int32), (0 : Int32), (0 : Int32), (0 : Int32), (0 : Int32), (0 : Int32)].set ((vr1 * (3 : Int32)) + vs1).toNatClampNeg (1 : Int32)).set ((vr1 * (3 : Int32)) + vs1).toNatClampNeg (2 : Int32)) [(1 : Int32), (1 : Int32), (1 : Int32), (1 : Int32), (1 : Int32), (1 : Int32)] [x0, x1, x2, x3, x4, x5] ([(0 : Int32), (0 : Int32), (0 : Int32), (0 : Int32), (0 : Int32), (0 : Int32)].set ((vr1 * (3 : Int32)) + vs1).toNatClampNeg 1) ([(0 : Int32), (0 : Int32), (0 : Int32), (0 : Int32), (0 : Int32), (0 : Int32), (0 : Int32), (0 : Int32), (0 : Int32), (0 : Int32), (0 : Int32), (0 : Int32), (0 : Int32), (0 : Int32), (0 : Int32), (0 : Int32)].set (0 : Int32).toNatClampNeg ((vr1 * (3 : Int32)) + vs1)) (1 : Int32) := O1058'
                                obtain ⟨Lh1059, Xh1059, Nh1059⟩ := own_hide X1058 N1058
                                refine OGo.on (fun t k => st1058.trans k) ?_
                                show OGo p e below s _ _ _ (T1058.setTop (mkF m 358 #[.val (.int va), .val (.int vcnt), .val (.int vbits), .val (.int vown), .val (.int voth), .val (.int vfl), .val (.int vr1), .val (.int vs1), .val (.int vr2), .val (.int vs2), .val (.int (2 : Int32)), .val (.int vm), .val (.int x12), .val (.int x13), .val (.ref b970), .val (.int x15), .val (.int x16), .val (.int (x16 + vm)), .val (.int x18), .val (.int x19), .val (.long x20), .second, .val (.long x22), .second, .val (.ref b998)] [(.int rv1058)]))
                                refine OGo.on (fun t k => XS.pop Xh1059.here hx rfl (hb hby at_358) rfl rfl k) ?_
                                refine OGo.on (fun t k => XS.iload Xh1059.here hx rfl (hb hby at_359) rfl k) ?_
                                refine OGo.on (fun t k => XS.iconst Xh1059.here hx rfl (hb hby at_361) k) ?_
                                show OGo p e below s _ _ _ (T1058.setTop (mkF m 362 #[.val (.int va), .val (.int vcnt), .val (.int vbits), .val (.int vown), .val (.int voth), .val (.int vfl), .val (.int vr1), .val (.int vs1), .val (.int vr2), .val (.int vs2), .val (.int (2 : Int32)), .val (.int vm), .val (.int x12), .val (.int x13), .val (.ref b970), .val (.int x15), .val (.int x16), .val (.int (x16 + vm)), .val (.int x18), .val (.int x19), .val (.long x20), .second, .val (.long x22), .second, .val (.ref b998)] [(.int (3 : Int32)), (.int (2 : Int32))]))
                                refine OGo.on (fun t k => XS.icmpYes Xh1059.here hx rfl (pc0 := 362) (pc' := 375) rfl (hb hby at_362) rfl (tlt (by decide)).1 (by decide) (by decide) k) ?_
                                show OGo p e below s _ _ _ (T1058.setTop (mkF m 375 #[.val (.int va), .val (.int vcnt), .val (.int vbits), .val (.int vown), .val (.int voth), .val (.int vfl), .val (.int vr1), .val (.int vs1), .val (.int vr2), .val (.int vs2), .val (.int (2 : Int32)), .val (.int vm), .val (.int x12), .val (.int x13), .val (.ref b970), .val (.int x15), .val (.int x16), .val (.int (x16 + vm)), .val (.int x18), .val (.int x19), .val (.long x20), .second, .val (.long x22), .second, .val (.ref b998)] []))
                                exact J375 T1058 _ T1058.heap (([(0 : Int32), (0 : Int32), (0 : Int32), (0 : Int32), (0 : Int32), (0 : Int32)].set ((vr1 * (3 : Int32)) + vs1).toNatClampNeg (1 : Int32)).set ((vr1 * (3 : Int32)) + vs1).toNatClampNeg (2 : Int32)) ([(0 : Int32), (0 : Int32), (0 : Int32), (0 : Int32), (0 : Int32), (0 : Int32)].set ((vr1 * (3 : Int32)) + vs1).toNatClampNeg 1) ([(0 : Int32), (0 : Int32), (0 : Int32), (0 : Int32), (0 : Int32), (0 : Int32), (0 : Int32), (0 : Int32), (0 : Int32), (0 : Int32), (0 : Int32), (0 : Int32), (0 : Int32), (0 : Int32), (0 : Int32), (0 : Int32)].set (0 : Int32).toNatClampNeg ((vr1 * (3 : Int32)) + vs1)) (1 : Int32) (1 : Int32) Xh1059 Nh1059 eh1058 Z1058 O1058 (oat_same (oat_same (oat_z6 hi 0) _) _) (fun hne => (oat_other (oat_other (oat_z6 hj 0) _ hi hj hne) _ hi hj hne)) (oat_same (oat_z6 hi 0) _) (fun hne => oat_other (oat_z6 hj 0) _ hi hj hne) rfl (Or.inr ⟨rfl, rfl, ⟨by decide, rfl⟩, (own_L2 _)⟩)
                            · have hkk : True := trivial
                              show OGo p e below s _ _ _ (T1011.setTop (mkF m 327 #[.val (.int va), .val (.int vcnt), .val (.int vbits), .val (.int vown), .val (.int voth), .val (.int vfl), .val (.int vr1), .val (.int vs1), .val (.int vr2), .val (.int vs2), .val (.int (3 : Int32)), .val (.int vm), .val (.int x12), .val (.int x13), .val (.ref b970), .val (.int x15), .val (.int x16), .val (.int (x16 + vm)), .val (.int x18), .val (.int x19), .val (.long x20), .second, .val (.long x22), .second, .val (.ref b998)] []))
                              by_cases hci : x19 = 0
                              · have hcc0 := hci
                                refine OGo.on (fun t k => XS.iload Xh1012.here hx rfl (hb hby at_327) rfl k) ?_
                                refine OGo.on (fun t k => XS.iconst Xh1012.here hx rfl (hb hby at_329) k) ?_
                                show OGo p e below s _ _ _ (T1011.setTop (mkF m 330 #[.val (.int va), .val (.int vcnt), .val (.int vbits), .val (.int vown), .val (.int voth), .val (.int vfl), .val (.int vr1), .val (.int vs1), .val (.int vr2), .val (.int vs2), .val (.int (3 : Int32)), .val (.int vm), .val (.int x12), .val (.int x13), .val (.ref b970), .val (.int x15), .val (.int x16), .val (.int (x16 + vm)), .val (.int x18), .val (.int x19), .val (.long x20), .second, .val (.long x22), .second, .val (.ref b998)] [(.int (1 : Int32)), (.int (3 : Int32))]))
                                refine OGo.on (fun t k => XS.icmpNo Xh1012.here hx rfl (hb hby at_330) rfl (flt (by decide)).1 k) ?_
                                show OGo p e below s _ _ _ (T1011.setTop (mkF m 333 #[.val (.int va), .val (.int vcnt), .val (.int vbits), .val (.int vown), .val (.int voth), .val (.int vfl), .val (.int vr1), .val (.int vs1), .val (.int vr2), .val (.int vs2), .val (.int (3 : Int32)), .val (.int vm), .val (.int x12), .val (.int x13), .val (.ref b970), .val (.int x15), .val (.int x16), .val (.int (x16 + vm)), .val (.int x18), .val (.int x19), .val (.long x20), .second, .val (.long x22), .second, .val (.ref b998)] []))
                                refine OGo.on (fun t k => XS.aload Xh1012.here hx rfl (hb hby at_333) rfl rfl k) ?_
                                refine OGo.on (fun t k => XS.iload Xh1012.here hx rfl (hb hby at_335) rfl k) ?_
                                refine OGo.on (fun t k => XS.iload Xh1012.here hx rfl (hb hby at_337) rfl k) ?_
                                show OGo p e below s _ _ _ (T1011.setTop (mkF m 339 #[.val (.int va), .val (.int vcnt), .val (.int vbits), .val (.int vown), .val (.int voth), .val (.int vfl), .val (.int vr1), .val (.int vs1), .val (.int vr2), .val (.int vs2), .val (.int (3 : Int32)), .val (.int vm), .val (.int x12), .val (.int x13), .val (.ref b970), .val (.int x15), .val (.int x16), .val (.int (x16 + vm)), .val (.int x18), .val (.int x19), .val (.long x20), .second, .val (.long x22), .second, .val (.ref b998)] [(.int vs1), (.int vr1), (.ref b998)]))
                                have E1060 := O1011.1
                                obtain ⟨cq1060, kq1060, q1060a, q1060b, q1060c⟩ := isOf hZ eh1011 E1060
                                obtain ⟨_, _, ⟨T1060, L1060, k1060, n1060⟩, -, X1060, ⟨Lc1060, hQ1060, l1060, y1060, z1060⟩, st1060⟩ := Xh1012.virtualBack hx (y := (⟨"com/example/slotwright/slotwright/solver/Occupancy", "add", "(II)I"⟩ : MethodName)) (z := (⟨"com/example/slotwright/slotwright/solver/Occupancy", "add", "(II)I"⟩ : MethodName)) hown (mvT hZ (hw _ (List.mem_of_getElem? (i := 36) rfl))) (mvT hZ (hw _ (List.mem_of_getElem? (i := 37) rfl))) (notFace_of_selects (args := #[]) (mvT hZ (hw _ (List.mem_of_getElem? (i := 39) rfl)))) (mvT hZ (hw _ (List.mem_of_getElem? (i := 39) rfl))) (mvT hZ (hw _ (List.mem_of_getElem? (i := 38) rfl))) (by decide) (backOf (W := 0) (own_addB l Z a0 hw [] b998 rm rw b970 rl rk [(0 : Int32), (0 : Int32), (0 : Int32), (0 : Int32), (0 : Int32), (0 : Int32)] [(1 : Int32), (1 : Int32), (1 : Int32), (1 : Int32), (1 : Int32), (1 : Int32)] [x0, x1, x2, x3, x4, x5] [(0 : Int32), (0 : Int32), (0 : Int32), (0 : Int32), (0 : Int32), (0 : Int32)] [(0 : Int32), (0 : Int32), (0 : Int32), (0 : Int32), (0 : Int32), (0 : Int32), (0 : Int32), (0 : Int32), (0 : Int32), (0 : Int32), (0 : Int32), (0 : Int32), (0 : Int32), (0 : Int32), (0 : Int32), (0 : Int32)] (0 : Int32) vr1 vs1 (1 : Int32) (0 : Int32) x19 (0 : Int32) T1011.heap n0 Z1011 hD O1011 (oat_z6 hi 1) (oat_z6 hi 0) qcx (oat_z6 hi 0) (Or.inl (own_nB1 hcc0))) hZ (hw _ (List.mem_of_getElem? (i := 40) rfl)) (hw _ (List.mem_of_getElem? (i := 4) rfl)) (by decide) (by decide)) q1060a q1060c (g := (mkF m 339 #[.val (.int va), .val (.int vcnt), .val (.int vbits), .val (.int vown), .val (.int voth), .val (.int vfl), .val (.int vr1), .val (.int vs1), .val (.int vr2), .val (.int vs2), .val (.int (3 : Int32)), .val (.int vm), .val (.int x12), .val (.int x13), .val (.ref b970), .val (.int x15), .val (.int x16), .val (.int (x16 + vm)), .val (.int x18), .val (.int x19), .val (.long x20), .second, .val (.long x22), .second, .val (.ref b998)] [(.int vs1), (.int vr1), (.ref b998)])) rfl (by rw [hml]; rfl) (Steps.refl _) (argsL := [(.int vr1), (.int vs1)]) (rest := []) (lenOf own_pd1 rfl) rfl (by show 2 * 0 + _ ≤ _; exact Nat.le_of_eq rfl) (hb hby at_339) (fun _ _ => ⟨rfl, eh1011, (by decide : 6 + 0 ≤ _), (by decide : 48 + 0 ≤ _)⟩)
                                dsimp only [Pt.U, Pt.locs, Pt.cells, Pt.slots] at X1060 l1060 y1060 z1060 st1060 hQ1060
                                subst l1060 y1060 z1060
                                obtain ⟨⟨rv1060, rfl⟩, N1060q, Z1060, O1060'⟩ := hQ1060
                                have N1060 := Fr.app Nh1012 N1060q
                                have eh1060 : T1060.heap = T1060.heap := rfl
                                have O1060 : OCC Z T1060.heap b998 rm rw b970 rl rk ([(0 : Int32), (0 : Int32), (0 : Int32), (0 : Int32), (0 : Int32), (0 : Int32)].set ((vr1 * (3 : Int32)) + vs1).toNatClampNeg (1 : Int32)) [(1 : Int32), (1 : Int32), (1 : Int32), (1 : Int32), (1 : Int32), (1 : Int32)] [x0, x1, x2, x3, x4, x5] [(0 : Int32), (0 : Int32), (0 : Int32), (0 : Int32), (0 : Int32), (0 : Int32)] [(0 : Int32), (0 : Int32), (0 : Int32), (0 : Int32), (0 : Int32), (0 : Int32), (0 : Int32), (0 : Int32), (0 : Int32), (0 : Int32), (0 : Int32), (0 : Int32), (0 : Int32), (0 : Int32), (0 : Int32), (0 : Int32)] (0 : Int32) := O1060'
                                obtain ⟨Lh1061, Xh1061, Nh1061⟩ := own_hide X1060 N1060
                                refine OGo.on (fun t k => st1060.trans k) ?_
                                show OGo p e below s _ _ _ (T1060.setTop (mkF m 342 #[.val (.int va), .val (.int vcnt), .val (.int vbits), .val (.int vown), .val (.int voth), .val (.int vfl), .val (.int vr1), .val (.int vs1), .val (.int vr2), .val (.int vs2), .val (.int (3 : Int32)), .val (.int vm), .val (.int x12), .val (.int x13), .val (.ref b970), .val (.int x15), .val (.int x16), .val (.int (x16 + vm)), .val (.int x18), .val (.int x19), .val (.long x20), .second, .val (.long x22), .second, .val (.ref b998)] [(.int rv1060)]))
                                refine OGo.on (fun t k => XS.pop Xh1061.here hx rfl (hb hby at_342) rfl rfl k) ?_
                                refine OGo.on (fun t k => XS.iload Xh1061.here hx rfl (hb hby at_343) rfl k) ?_
                                refine OGo.on (fun t k => XS.iconst Xh1061.here hx rfl (hb hby at_345) k) ?_
                                show OGo p e below s _ _ _ (T1060.setTop (mkF m 346 #[.val (.int va), .val (.int vcnt), .val (.int vbits), .val (.int vown), .val (.int voth), .val (.int vfl), .val (.int vr1), .val (.int vs1), .val (.int vr2), .val (.int vs2), .val (.int (3 : Int32)), .val (.int vm), .val (.int x12), .val (.int x13), .val (.ref b970), .val (.int x15), .val (.int x16), .val (.int (x16 + vm)), .val (.int x18), .val (.int x19), .val (.long x20), .second, .val (.long x22), .second, .val (.ref b998)] [(.int (2 : Int32)), (.int (3 : Int32))]))
                                refine OGo.on (fun t k => XS.icmpNo Xh1061.here hx rfl (hb hby at_346) rfl (flt (by decide)).1 k) ?_
                                show OGo p e below s _ _ _ (T1060.setTop (mkF m 349 #[.val (.int va), .val (.int vcnt), .val (.int vbits), .val (.int vown), .val (.int voth), .val (.int vfl), .val (.int vr1), .val (.int vs1), .val (.int vr2), .val (.int vs2), .val (.int (3 : Int32)), .val (.int vm), .val (.int x12), .val (.int x13), .val (.ref b970), .val (.int x15), .val (.int x16), .val (.int (x16 + vm)), .val (.int x18), .val (.int x19), .val (.long x20), .second, .val (.long x22), .second, .val (.ref b998)] []))
                                refine OGo.on (fun t k => XS.aload Xh1061.here hx rfl (hb hby at_349) rfl rfl k) ?_
                                refine OGo.on (fun t k => XS.iload Xh1061.here hx rfl (hb hby at_351) rfl k) ?_
                                refine OGo.on (fun t k => XS.iload Xh1061.here hx rfl (hb hby at_353) rfl k) ?_
                                show OGo p e below s _ _ _ (T1060.setTop (mkF m 355 #[.val (.int va), .val (.int vcnt), .val (.int vbits), .val (.int vown), .val (.int voth), .val (.int vfl), .val (.int vr1), .val (.int vs1), .val (.int vr2), .val (.int vs2), .val (.int (3 : Int32)), .val (.int vm), .val (.int x12), .val (.int x13), .val (.ref b970), .val (.int x15), .val (.int x16), .val (.int (x16 + vm)), .val (.int x18), .val (.int x19), .val (.long x20), .second, .val (.long x22), .second, .val (.ref b998)] [(.int vs1), (.int vr1), (.ref b998)]))
                                have E1062 := O1060.1
                                obtain ⟨cq1062, kq1062, q1062a, q1062b, q1062c⟩ := isOf hZ eh1060 E1062
                                obtain ⟨_, _, ⟨T1062, L1062, k1062, n1062⟩, -, X1062, ⟨Lc1062, hQ1062, l1062, y1062, z1062⟩, st1062⟩ := Xh1061.virtualBack hx (y := (⟨"com/example/slotwright/slotwright/solver/Occupancy", "add", "(II)I"⟩ : MethodName)) (z := (⟨"com/example/slotwright/slotwright/solver/Occupancy", "add", "(II)I"⟩ : MethodName)) hown (mvT hZ (hw _ (List.mem_of_getElem? (i := 36) rfl))) (mvT hZ (hw _ (List.mem_of_getElem? (i := 37) rfl))) (notFace_of_selects (args := #[]) (mvT hZ (hw _ (List.mem_of_getElem? (i := 39) rfl)))) (mvT hZ (hw _ (List.mem_of_getElem? (i := 39) rfl))) (mvT hZ (hw _ (List.mem_of_getElem? (i := 38) rfl))) (by decide) (backOf (W := 0) (own_addA l Z a0 hw [] b998 rm rw b970 rl rk ([(0 : Int32), (0 : Int32), (0 : Int32), (0 : Int32), (0 : Int32), (0 : Int32)].set ((vr1 * (3 : Int32)) + vs1).toNatClampNeg (1 : Int32)) [(1 : Int32), (1 : Int32), (1 : Int32), (1 : Int32), (1 : Int32), (1 : Int32)] [x0, x1, x2, x3, x4, x5] [(0 : Int32), (0 : Int32), (0 : Int32), (0 : Int32), (0 : Int32), (0 : Int32)] [(0 : Int32), (0 : Int32), (0 : Int32), (0 : Int32), (0 : Int32), (0 : Int32), (0 : Int32), (0 : Int32), (0 : Int32), (0 : Int32), (0 : Int32), (0 : Int32), (0 : Int32), (0 : Int32), (0 : Int32), (0 : Int32)] (0 : Int32) vr1 vs1 (1 : Int32) (1 : Int32) x19 (0 : Int32) T1060.heap n0 Z1060 hD O1060 (oat_z6 hi 1) (oat_same (oat_z6 hi 0) _) qcx (oat_z6 hi 0) (own_nA2 x19) rfl rfl (by decide) (by decide) (by decide)) hZ (hw _ (List.mem_of_getElem? (i := 40) rfl)) (hw _ (List.mem_of_getElem? (i := 4) rfl)) (by decide) (by decide)) q1062a q1062c (g := (mkF m 355 #[.val (.int va), .val (.int vcnt), .val (.int vbits), .val (.int vown), .val (.int voth), .val (.int vfl), .val (.int vr1), .val (.int vs1), .val (.int vr2), .val (.int vs2), .val (.int (3 : Int32)), .val (.int vm), .val (.int x12), .val (.int x13), .val (.ref b970), .val (.int x15), .val (.int x16), .val (.int (x16 + vm)), .val (.int x18), .val (.int x19), .val (.long x20), .second, .val (.long x22), .second, .val (.ref b998)] [(.int vs1), (.int vr1), (.ref b998)])) rfl (by rw [hml]; rfl) (Steps.refl _) (argsL := [(.int vr1), (.int vs1)]) (rest := []) (lenOf own_pd1 rfl) rfl (by show 2 * 0 + _ ≤ _; exact Nat.le_of_eq rfl) (hb hby at_355) (fun _ _ => ⟨rfl, eh1060, (by decide : 6 + 0 ≤ _), (by decide : 48 + 0 ≤ _)⟩)
                                dsimp only [Pt.U, Pt.locs, Pt.cells, Pt.slots] at X1062 l1062 y1062 z1062 st1062 hQ1062
                                subst l1062 y1062 z1062
                                obtain ⟨⟨rv1062, rfl⟩, N1062q, Z1062, O1062'⟩ := hQ1062
                                have N1062 := Fr.app Nh1061 N1062q
                                have eh1062 : T1062.heap = T1062.heap := rfl
                                have O1062 : OCC Z T1062.heap b998 rm rw b970 rl rk (([(0 : Int32), (0 : Int32), (0 : Int32), (0 : Int32), (0 : Int32), (0 : Int32)].set ((vr1 * (3 : Int32)) + vs1).toNatClampNeg (1 : Int32)).set ((vr1 * (3 : Int32)) + vs1).toNatClampNeg (2 : Int32)) [(1 : Int32), (1 : Int32), (1 : Int32), (1 : Int32), (1 : Int32), (1 : Int32)] [x0, x1, x2, x3, x4, x5] ([(0 : Int32), (0 : Int32), (0 : Int32), (0 : Int32), (0 : Int32), (0 : Int32)].set ((vr1 * (3 : Int32)) + vs1).toNatClampNeg 1) ([(0 : Int32), (0 : Int32), (0 : Int32), (0 : Int32), (0 : Int32), (0 : Int32), (0 : Int32), (0 : Int32), (0 : Int32), (0 : Int32), (0 : Int32), (0 : Int32), (0 : Int32), (0 : Int32), (0 : Int32), (0 : Int32)].set (0 : Int32).toNatClampNeg ((vr1 * (3 : Int32)) + vs1)) (1 : Int32) := O1062'
                                obtain ⟨Lh1063, Xh1063, Nh1063⟩ := own_hide X1062 N1062
                                refine OGo.on (fun t k => st1062.trans k) ?_
                                show OGo p e below s _ _ _ (T1062.setTop (mkF m 358 #[.val (.int va), .val (.int vcnt), .val (.int vbits), .val (.int vown), .val (.int voth), .val (.int vfl), .val (.int vr1), .val (.int vs1), .val (.int vr2), .val (.int vs2), .val (.int (3 : Int32)), .val (.int vm), .val (.int x12), .val (.int x13), .val (.ref b970), .val (.int x15), .val (.int x16), .val (.int (x16 + vm)), .val (.int x18), .val (.int x19), .val (.long x20), .second, .val (.long x22), .second, .val (.ref b998)] [(.int rv1062)]))
                                refine OGo.on (fun t k => XS.pop Xh1063.here hx rfl (hb hby at_358) rfl rfl k) ?_
                                refine OGo.on (fun t k => XS.iload Xh1063.here hx rfl (hb hby at_359) rfl k) ?_
                                refine OGo.on (fun t k => XS.iconst Xh1063.here hx rfl (hb hby at_361) k) ?_
                                show OGo p e below s _ _ _ (T1062.setTop (mkF m 362 #[.val (.int va), .val (.int vcnt), .val (.int vbits), .val (.int vown), .val (.int voth), .val (.int vfl), .val (.int vr1), .val (.int vs1), .val (.int vr2), .val (.int vs2), .val (.int (3 : Int32)), .val (.int vm), .val (.int x12), .val (.int x13), .val (.ref b970), .val (.int x15), .val (.int x16), .val (.int (x16 + vm)), .val (.int x18), .val (.int x19), .val (.long x20), .second, .val (.long x22), .second, .val (.ref b998)] [(.int (3 : Int32)), (.int (3 : Int32))]))
                                refine OGo.on (fun t k => XS.icmpNo Xh1063.here hx rfl (hb hby at_362) rfl (flt (by decide)).1 k) ?_
                                show OGo p e below s _ _ _ (T1062.setTop (mkF m 365 #[.val (.int va), .val (.int vcnt), .val (.int vbits), .val (.int vown), .val (.int voth), .val (.int vfl), .val (.int vr1), .val (.int vs1), .val (.int vr2), .val (.int vs2), .val (.int (3 : Int32)), .val (.int vm), .val (.int x12), .val (.int x13), .val (.ref b970), .val (.int x15), .val (.int x16), .val (.int (x16 + vm)), .val (.int x18), .val (.int x19), .val (.long x20), .second, .val (.long x22), .second, .val (.ref b998)] []))
                                refine OGo.on (fun t k => XS.aload Xh1063.here hx rfl (hb hby at_365) rfl rfl k) ?_
                                refine OGo.on (fun t k => XS.iload Xh1063.here hx rfl (hb hby at_367) rfl k) ?_
                                refine OGo.on (fun t k => XS.iload Xh1063.here hx rfl (hb hby at_369) rfl k) ?_
                                show OGo p e below s _ _ _ (T1062.setTop (mkF m 371 #[.val (.int va), .val (.int vcnt), .val (.int vbits), .val (.int vown), .val (.int voth), .val (.int vfl), .val (.int vr1), .val (.int vs1), .val (.int vr2), .val (.int vs2), .val (.int (3 : Int32)), .val (.int vm), .val (.int x12), .val (.int x13), .val (.ref b970), .val (.int x15), .val (.int x16), .val (.int (x16 + vm)), .val (.int x18), .val (.int x19), .val (.long x20), .second, .val (.long x22), .second, .val (.ref b998)] [(.int vs1), (.int vr1), (.ref b998)]))
                                have E1064 := O1062.1
                                obtain ⟨cq1064, kq1064, q1064a, q1064b, q1064c⟩ := isOf hZ eh1062 E1064
                                obtain ⟨_, _, ⟨T1064, L1064, k1064, n1064⟩, -, X1064, ⟨Lc1064, hQ1064, l1064, y1064, z1064⟩, st1064⟩ := Xh1063.virtualBack hx (y := (⟨"com/example/slotwright/slotwright/solver/Occupancy", "add", "(II)I"⟩ : MethodName)) (z := (⟨"com/example/slotwright/slotwright/solver/Occupancy", "add", "(II)I"⟩ : MethodName)) hown (mvT hZ (hw _ (List.mem_of_getElem? (i := 36) rfl))) (mvT hZ (hw _ (List.mem_of_getElem? (i := 37) rfl))) (notFace_of_selects (args := #[]) (mvT hZ (hw _ (List.mem_of_getElem? (i := 39) rfl)))) (mvT hZ (hw _ (List.mem_of_getElem? (i := 39) rfl))) (mvT hZ (hw _ (List.mem_of_getElem? (i := 38) rfl))) (by decide) (backOf (W := 0) (own_addB l Z a0 hw [] b998 rm rw b970 rl rk (([(0 : Int32), (0 : Int32), (0 : Int32), (0 : Int32), (0 : Int32), (0 : Int32)].set ((vr1 * (3 : Int32)) + vs1).toNatClampNeg (1 : Int32)).set ((vr1 * (3 : Int32)) + vs1).toNatClampNeg (2 : Int32)) [(1 : Int32), (1 : Int32), (1 : Int32), (1 : Int32), (1 : Int32), (1 : Int32)] [x0, x1, x2, x3, x4, x5] ([(0 : Int32), (0 : Int32), (0 : Int32), (0 : Int32), (0 : Int32), (0 : Int32)].set ((vr1 * (3 : Int32)) + vs1).toNatClampNeg 1) ([(0 : Int32), (0 : Int32), (0 : Int32), (0 : Int32), (0 : Int32), (0 : Int32), (0 : Int32), (0 : Int32), (0 : Int32), (0 : Int32), (0 : Int32), (0 : Int32), (0 : Int32), (0 : Int32), (0 : Int32), (0 : Int32)].set (0 : Int32).toNatClampNeg ((vr1 * (3 : Int32)) + vs1)) (1 : Int32) vr1 vs1 (1 : Int32) (2 : Int32) x19 (1 : Int32) T1062.heap n0 Z1062 hD O1062 (oat_z6 hi 1) (oat_same (oat_same (oat_z6 hi 0) _) _) qcx (oat_same (oat_z6 hi 0) _) (Or.inr (by decide))) hZ (hw _ (List.mem_of_getElem? (i := 40) rfl)) (hw _ (List.mem_of_getElem? (i := 4) rfl)) (by decide) (by decide)) q1064a q1064c (g := (mkF m 371 #[.val (.int va), .val (.int vcnt), .val (.int vbits), .val (.int vown), .val (.int voth), .val (.int vfl), .val (.int vr1), .val (.int vs1), .val (.int vr2), .val (.int vs2), .val (.int (3 : Int32)), .val (.int vm), .val (.int x12), .val (.int x13), .val (.ref b970), .val (.int x15), .val (.int x16), .val (.int (x16 + vm)), .val (.int x18), .val (.int x19), .val (.long x20), .second, .val (.long x22), .second, .val (.ref b998)] [(.int vs1), (.int vr1), (.ref b998)])) rfl (by rw [hml]; rfl) (Steps.refl _) (argsL := [(.int vr1), (.int vs1)]) (rest := []) (lenOf own_pd1 rfl) rfl (by show 2 * 0 + _ ≤ _; exact Nat.le_of_eq rfl) (hb hby at_371) (fun _ _ => ⟨rfl, eh1062, (by decide : 6 + 0 ≤ _), (by decide : 48 + 0 ≤ _)⟩)
                                dsimp only [Pt.U, Pt.locs, Pt.cells, Pt.slots] at X1064 l1064 y1064 z1064 st1064 hQ1064
                                subst l1064 y1064 z1064
                                obtain ⟨⟨rv1064, rfl⟩, N1064q, Z1064, O1064'⟩ := hQ1064
                                have N1064 := Fr.app Nh1063 N1064q
                                have eh1064 : T1064.heap = T1064.heap := rfl
                                have O1064 : OCC Z T1064.heap b998 rm rw b970 rl rk ((([(0 : Int32), (0 : Int32), (0 : Int32), (0 : Int32), (0 : Int32), (0 : Int32)].set ((vr1 * (3 : Int32)) + vs1).toNatClampNeg (1 : Int32)).set ((vr1 * (3 : Int32)) + vs1).toNatClampNeg (2 : Int32)).set ((vr1 * (3 : Int32)) + vs1).toNatClampNeg (3 : Int32)) [(1 : Int32), (1 : Int32), (1 : Int32), (1 : Int32), (1 : Int32), (1 : Int32)] [x0, x1, x2, x3, x4, x5] ([(0 : Int32), (0 : Int32), (0 : Int32), (0 : Int32), (0 : Int32), (0 : Int32)].set ((vr1 * (3 : Int32)) + vs1).toNatClampNeg 1) ([(0 : Int32), (0 : Int32), (0 : Int32), (0 : Int32), (0 : Int32), (0 : Int32), (0 : Int32), (0 : Int32), (0 : Int32), (0 : Int32), (0 : Int32), (0 : Int32), (0 : Int32), (0 : Int32), (0 : Int32), (0 : Int32)].set (0 : Int32).toNatClampNeg ((vr1 * (3 : Int32)) + vs1)) (1 : Int32) := O1064'
                                obtain ⟨Lh1065, Xh1065, Nh1065⟩ := own_hide X1064 N1064
                                refine OGo.on (fun t k => st1064.trans k) ?_
                                show OGo p e below s _ _ _ (T1064.setTop (mkF m 374 #[.val (.int va), .val (.int vcnt), .val (.int vbits), .val (.int vown), .val (.int voth), .val (.int vfl), .val (.int vr1), .val (.int vs1), .val (.int vr2), .val (.int vs2), .val (.int (3 : Int32)), .val (.int vm), .val (.int x12), .val (.int x13), .val (.ref b970), .val (.int x15), .val (.int x16), .val (.int (x16 + vm)), .val (.int x18), .val (.int x19), .val (.long x20), .second, .val (.long x22), .second, .val (.ref b998)] [(.int rv1064)]))
                                refine OGo.on (fun t k => XS.pop Xh1065.here hx rfl (hb hby at_374) rfl rfl k) ?_
                                show OGo p e below s _ _ _ (T1064.setTop (mkF m 375 #[.val (.int va), .val (.int vcnt), .val (.int vbits), .val (.int vown), .val (.int voth), .val (.int vfl), .val (.int vr1), .val (.int vs1), .val (.int vr2), .val (.int vs2), .val (.int (3 : Int32)), .val (.int vm), .val (.int x12), .val (.int x13), .val (.ref b970), .val (.int x15), .val (.int x16), .val (.int (x16 + vm)), .val (.int x18), .val (.int x19), .val (.long x20), .second, .val (.long x22), .second, .val (.ref b998)] []))
                                exact J375 T1064 _ T1064.heap ((([(0 : Int32), (0 : Int32), (0 : Int32), (0 : Int32), (0 : Int32), (0 : Int32)].set ((vr1 * (3 : Int32)) + vs1).toNatClampNeg (1 : Int32)).set ((vr1 * (3 : Int32)) + vs1).toNatClampNeg (2 : Int32)).set ((vr1 * (3 : Int32)) + vs1).toNatClampNeg (3 : Int32)) ([(0 : Int32), (0 : Int32), (0 : Int32), (0 : Int32), (0 : Int32), (0 : Int32)].set ((vr1 * (3 : Int32)) + vs1).toNatClampNeg 1) ([(0 : Int32), (0 : Int32), (0 : Int32), (0 : Int32), (0 : Int32), (0 : Int32), (0 : Int32), (0 : Int32), (0 : Int32), (0 : Int32), (0 : Int32), (0 : Int32), (0 : Int32), (0 : Int32), (0 : Int32), (0 : Int32)].set (0 : Int32).toNatClampNeg ((vr1 * (3 : Int32)) + vs1)) (1 : Int32) (1 : Int32) Xh1065 Nh1065 eh1064 Z1064 O1064 (oat_same (oat_same (oat_same (oat_z6 hi 0) _) _) _) (fun hne => (oat_other (oat_other (oat_other (oat_z6 hj 0) _ hi hj hne) _ hi hj hne) _ hi hj hne)) (oat_same (oat_z6 hi 0) _) (fun hne => oat_other (oat_z6 hj 0) _ hi hj hne) rfl (Or.inr ⟨rfl, rfl, ⟨by decide, rfl⟩, (own_L3 _)⟩)
                              · have hcc0 := hci
                                refine OGo.on (fun t k => XS.iload Xh1012.here hx rfl (hb hby at_327) rfl k) ?_
                                refine OGo.on (fun t k => XS.iconst Xh1012.here hx rfl (hb hby at_329) k) ?_
                                show OGo p e below s _ _ _ (T1011.setTop (mkF m 330 #[.val (.int va), .val (.int vcnt), .val (.int vbits), .val (.int vown), .val (.int voth), .val (.int vfl), .val (.int vr1), .val (.int vs1), .val (.int vr2), .val (.int vs2), .val (.int (3 : Int32)), .val (.int vm), .val (.int x12), .val (.int x13), .val (.ref b970), .val (.int x15), .val (.int x16), .val (.int (x16 + vm)), .val (.int x18), .val (.int x19), .val (.long x20), .second, .val (.long x22), .second, .val (.ref b998)] [(.int (1 : Int32)), (.int (3 : Int32))]))
                                refine OGo.on (fun t k => XS.icmpNo Xh1012.here hx rfl (hb hby at_330) rfl (flt (by decide)).1 k) ?_
                                show OGo p e below s _ _ _ (T1011.setTop (mkF m 333 #[.val (.int va), .val (.int vcnt), .val (.int vbits), .val (.int vown), .val (.int voth), .val (.int vfl), .val (.int vr1), .val (.int vs1), .val (.int vr2), .val (.int vs2), .val (.int (3 : Int32)), .val (.int vm), .val (.int x12), .val (.int x13), .val (.ref b970), .val (.int x15), .val (.int x16), .val (.int (x16 + vm)), .val (.int x18), .val (.int x19), .val (.long x20), .second, .val (.long x22), .second, .val (.ref b998)] []))
                                refine OGo.on (fun t k => XS.aload Xh1012.here hx rfl (hb hby at_333) rfl rfl k) ?_
                                refine OGo.on (fun t k => XS.iload Xh1012.here hx rfl (hb hby at_335) rfl k) ?_
                                refine OGo.on (fun t k => XS.iload Xh1012.here hx rfl (hb hby at_337) rfl k) ?_
                                show OGo p e below s _ _ _ (T1011.setTop (mkF m 339 #[.val (.int va), .val (.int vcnt), .val (.int vbits), .val (.int vown), .val (.int voth), .val (.int vfl), .val (.int vr1), .val (.int vs1), .val (.int vr2), .val (.int vs2), .val (.int (3 : Int32)), .val (.int vm), .val (.int x12), .val (.int x13), .val (.ref b970), .val (.int x15), .val (.int x16), .val (.int (x16 + vm)), .val (.int x18), .val (.int x19), .val (.long x20), .second, .val (.long x22), .second, .val (.ref b998)] [(.int vs1), (.int vr1), (.ref b998)]))
                                have E1066 := O1011.1
                                obtain ⟨cq1066, kq1066, q1066a, q1066b, q1066c⟩ := isOf hZ eh1011 E1066
                                obtain ⟨_, _, ⟨T1066, L1066, k1066, n1066⟩, -, X1066, ⟨Lc1066, hQ1066, l1066, y1066, z1066⟩, st1066⟩ := Xh1012.virtualBack hx (y := (⟨"com/example/slotwright/slotwright/solver/Occupancy", "add", "(II)I"⟩ : MethodName)) (z := (⟨"com/example/slotwright/slotwright/solver/Occupancy", "add", "(II)I"⟩ : MethodName)) hown (mvT hZ (hw _ (List.mem_of_getElem? (i := 36) rfl))) (mvT hZ (hw _ (List.mem_of_getElem? (i := 37) rfl))) (notFace_of_selects (args := #[]) (mvT hZ (hw _ (List.mem_of_getElem? (i := 39) rfl)))) (mvT hZ (hw _ (List.mem_of_getElem? (i := 39) rfl))) (mvT hZ (hw _ (List.mem_of_getElem? (i := 38) rfl))) (by decide) (backOf (W := 0) (own_addA l Z a0 hw [] b998 rm rw b970 rl rk [(0 : Int32), (0 : Int32), (0 : Int32), (0 : Int32), (0 : Int32), (0 : Int32)] [(1 : Int32), (1 : Int32), (1 : Int32), (1 : Int32), (1 : Int32), (1 : Int32)] [x0, x1, x2, x3, x4, x5] [(0 : Int32), (0 : Int32), (0 : Int32), (0 : Int32), (0 : Int32), (0 : Int32)] [(0 : Int32), (0 : Int32), (0 : Int32), (0 : Int32), (0 : Int32), (0 : Int32), (0 : Int32), (0 : Int32), (0 : Int32), (0 : Int32), (0 : Int32), (0 : Int32), (0 : Int32), (0 : Int32), (0 : Int32), (0 : Int32)] (0 : Int32) vr1 vs1 (1 : Int32) (0 : Int32) x19 (0 : Int32) T1011.heap n0 Z1011 hD O1011 (oat_z6 hi 1) (oat_z6 hi 0) qcx (oat_z6 hi 0) (own_nA1 hcc0) rfl rfl (by decide) (by decide) (by decide)) hZ (hw _ (List.mem_of_getElem? (i := 40) rfl)) (hw _ (List.mem_of_getElem? (i := 4) rfl)) (by decide) (by decide)) q1066a q1066c (g := (mkF m 339 #[.val (.int va), .val (.int vcnt), .val (.int vbits), .val (.int vown), .val (.int voth), .val (.int vfl), .val (.int vr1), .val (.int vs1), .val (.int vr2), .val (.int vs2), .val (.int (3 : Int32)), .val (.int vm), .val (.int x12), .val (.int x13), .val (.ref b970), .val (.int x15), .val (.int x16), .val (.int (x16 + vm)), .val (.int x18), .val (.int x19), .val (.long x20), .second, .val (.long x22), .second, .val (.ref b998)] [(.int vs1), (.int vr1), (.ref b998)])) rfl (by rw [hml]; rfl) (Steps.refl _) (argsL := [(.int vr1), (.int vs1)]) (rest := []) (lenOf own_pd1 rfl) rfl (by show 2 * 0 + _ ≤ _; exact Nat.le_of_eq rfl) (hb hby at_339) (fun _ _ => ⟨rfl, eh1011, (by decide : 6 + 0 ≤ _), (by decide : 48 + 0 ≤ _)⟩)
                                dsimp only [Pt.U, Pt.locs, Pt.cells, Pt.slots] at X1066 l1066 y1066 z1066 st1066 hQ1066
                                subst l1066 y1066 z1066
                                obtain ⟨⟨rv1066, rfl⟩, N1066q, Z1066, O1066'⟩ := hQ1066
                                have N1066 := Fr.app Nh1012 N1066q
                                have eh1066 : T1066.heap = T1066.heap := rfl
                                have O1066 : OCC Z T1066.heap b998 rm rw b970 rl rk ([(0 : Int32), (0 : Int32), (0 : Int32), (0 : Int32), (0 : Int32), (0 : Int32)].set ((vr1 * (3 : Int32)) + vs1).toNatClampNeg (1 : Int32)) [(1 : Int32), (1 : Int32), (1 : Int32), (1 : Int32), (1 : Int32), (1 : Int32)] [x0, x1, x2, x3, x4, x5] ([(0 : Int32), (0 : Int32), (0 : Int32), (0 : Int32), (0 : Int32), (0 : Int32)].set ((vr1 * (3 : Int32)) + vs1).toNatClampNeg 1) ([(0 : Int32), (0 : Int32), (0 : Int32), (0 : Int32), (0 : Int32), (0 : Int32), (0 : Int32), (0 : Int32), (0 : Int32), (0 : Int32), (0 : Int32), (0 : Int32), (0 : Int32), (0 : Int32), (0 : Int32), (0 : Int32)].set (0 : Int32).toNatClampNeg ((vr1 * (3 : Int32)) + vs1)) (1 : Int32) := O1066'
                                obtain ⟨Lh1067, Xh1067, Nh1067⟩ := own_hide X1066 N1066
                                refine OGo.on (fun t k => st1066.trans k) ?_
                                show OGo p e below s _ _ _ (T1066.setTop (mkF m 342 #[.val (.int va), .val (.int vcnt), .val (.int vbits), .val (.int vown), .val (.int voth), .val (.int vfl), .val (.int vr1), .val (.int vs1), .val (.int vr2), .val (.int vs2), .val (.int (3 : Int32)), .val (.int vm), .val (.int x12), .val (.int x13), .val (.ref b970), .val (.int x15), .val (.int x16), .val (.int (x16 + vm)), .val (.int x18), .val (.int x19), .val (.long x20), .second, .val (.long x22), .second, .val (.ref b998)] [(.int rv1066)]))
                                refine OGo.on (fun t k => XS.pop Xh1067.here hx rfl (hb hby at_342) rfl rfl k) ?_
                                refine OGo.on (fun t k => XS.iload Xh1067.here hx rfl (hb hby at_343) rfl k) ?_
                                refine OGo.on (fun t k => XS.iconst Xh1067.here hx rfl (hb hby at_345) k) ?_
                                show OGo p e below s _ _ _ (T1066.setTop (mkF m 346 #[.val (.int va), .val (.int vcnt), .val (.int vbits), .val (.int vown), .val (.int voth), .val (.int vfl), .val (.int vr1), .val (.int vs1), .val (.int vr2), .val (.int vs2), .val (.int (3 : Int32)), .val (.int vm), .val (.int x12), .val (.int x13), .val (.ref b970), .val (.int x15), .val (.int x16), .val (.int (x16 + vm)), .val (.int x18), .val (.int x19), .val (.long x20), .second, .val (.long x22), .second, .val (.ref b998)] [(.int (2 : Int32)), (.int (3 : Int32))]))
                                refine OGo.on (fun t k => XS.icmpNo Xh1067.here hx rfl (hb hby at_346) rfl (flt (by decide)).1 k) ?_
                                show OGo p e below s _ _ _ (T1066.setTop (mkF m 349 #[.val (.int va), .val (.int vcnt), .val (.int vbits), .val (.int vown), .val (.int voth), .val (.int vfl), .val (.int vr1), .val (.int vs1), .val (.int vr2), .val (.int vs2), .val (.int (3 : Int32)), .val (.int vm), .val (.int x12), .val (.int x13), .val (.ref b970), .val (.int x15), .val (.int x16), .val (.int (x16 + vm)), .val (.int x18), .val (.int x19), .val (.long x20), .second, .val (.long x22), .second, .val (.ref b998)] []))
                                refine OGo.on (fun t k => XS.aload Xh1067.here hx rfl (hb hby at_349) rfl rfl k) ?_
                                refine OGo.on (fun t k => XS.iload Xh1067.here hx rfl (hb hby at_351) rfl k) ?_
                                refine OGo.on (fun t k => XS.iload Xh1067.here hx rfl (hb hby at_353) rfl k) ?_
                                show OGo p e below s _ _ _ (T1066.setTop (mkF m 355 #[.val (.int va), .val (.int vcnt), .val (.int vbits), .val (.int vown), .val (.int voth), .val (.int vfl), .val (.int vr1), .val (.int vs1), .val (.int vr2), .val (.int vs2), .val (.int (3 : Int32)), .val (.int vm), .val (.int x12), .val (.int x13), .val (.ref b970), .val (.int x15), .val (.int x16), .val (.int (x16 + vm)), .val (.int x18), .val (.int x19), .val (.long x20), .second, .val (.long x22), .second, .val (.ref b998)] [(.int vs1), (.int vr1), (.ref b998)]))
                                have E1068 := O1066.1
                                obtain ⟨cq1068, kq1068, q1068a, q1068b, q1068c⟩ := isOf hZ eh1066 E1068
                                obtain ⟨_, _, ⟨T1068, L1068, k1068, n1068⟩, -, X1068, ⟨Lc1068, hQ1068, l1068, y1068, z1068⟩, st1068⟩ := Xh1067.virtualBack hx (y := (⟨"com/example/slotwright/slotwright/solver/Occupancy", "add", "(II)I"⟩ : MethodName)) (z := (⟨"com/example/slotwright/slotwright/solver/Occupancy", "add", "(II)I"⟩ : MethodName)) hown (mvT hZ (hw _ (List.mem_of_getElem? (i := 36) rfl))) (mvT hZ (hw _ (List.mem_of_getElem? (i := 37) rfl))) (notFace_of_selects (args := #[]) (mvT hZ (hw _ (List.mem_of_getElem? (i := 39) rfl)))) (mvT hZ (hw _ (List.mem_of_getElem? (i := 39) rfl))) (mvT hZ (hw _ (List.mem_of_getElem? (i := 38) rfl))) (by decide) (backOf (W := 0) (own_addB l Z a0 hw [] b998 rm rw b970 rl rk ([(0 : Int32), (0 : Int32), (0 : Int32), (0 : Int32), (0 : Int32), (0 : Int32)].set ((vr1 * (3 : Int32)) + vs1).toNatClampNeg (1 : Int32)) [(1 : Int32), (1 : Int32), (1 : Int32), (1 : Int32), (1 : Int32), (1 : Int32)] [x0, x1, x2, x3, x4, x5] ([(0 : Int32), (0 : Int32), (0 : Int32), (0 : Int32), (0 : Int32), (0 : Int32)].set ((vr1 * (3 : Int32)) + vs1).toNatClampNeg 1) ([(0 : Int32), (0 : Int32), (0 : Int32), (0 : Int32), (0 : Int32), (0 : Int32), (0 : Int32), (0 : Int32), (0 : Int32), (0 : Int32), (0 : Int32), (0 : Int32), (0 : Int32), (0 : Int32), (0 : Int32), (0 : Int32)].set (0 : Int32).toNatClampNeg ((vr1 * (3 : Int32)) + vs1)) (1 : Int32) vr1 vs1 (1 : Int32) (1 : Int32) x19 (1 : Int32) T1066.heap n0 Z1066 hD O1066 (oat_z6 hi 1) (oat_same (oat_z6 hi 0) _) qcx (oat_same (oat_z6 hi 0) _) (Or.inr (by decide))) hZ (hw _ (List.mem_of_getElem? (i := 40) rfl)) (hw _ (List.mem_of_getElem? (i := 4) rfl)) (by decide) (by decide)) q1068a q1068c (g := (mkF m 355 #[.val (.int va), .val (.int vcnt), .val (.int vbits), .val (.int vown), .val (.int voth), .val (.int vfl), .val (.int vr1), .val (.int vs1), .val (.int vr2), .val (.int vs2), .val (.int (3 : Int32)), .val (.int vm), .val (.int x12), .val (.int x13), .val (.ref b970), .val (.int x15), .val (.int x16), .val (.int (x16 + vm)), .val (.int x18), .val (.int x19), .val (.long x20), .second, .val (.long x22), .second, .val (.ref b998)] [(.int vs1), (.int vr1), (.ref b998)])) rfl (by rw [hml]; rfl) (Steps.refl _) (argsL := [(.int vr1), (.int vs1)]) (rest := []) (lenOf own_pd1 rfl) rfl (by show 2 * 0 + _ ≤ _; exact Nat.le_of_eq rfl) (hb hby at_355) (fun _ _ => ⟨rfl, eh1066, (by decide : 6 + 0 ≤ _), (by decide : 48 + 0 ≤ _)⟩)
                                dsimp only [Pt.U, Pt.locs, Pt.cells, Pt.slots] at X1068 l1068 y1068 z1068 st1068 hQ1068
                                subst l1068 y1068 z1068
                                obtain ⟨⟨rv1068, rfl⟩, N1068q, Z1068, O1068'⟩ := hQ1068
                                have N1068 := Fr.app Nh1067 N1068q
                                have eh1068 : T1068.heap = T1068.heap := rfl
                                have O1068 : OCC Z T1068.heap b998 rm rw b970 rl rk (([(0 : Int32), (0 : Int32), (0 : Int32), (0 : Int32), (0 : Int32), (0 : Int32)].set ((vr1 * (3 : Int32)) + vs1).toNatClampNeg (1 : Int32)).set ((vr1 * (3 : Int32)) + vs1).toNatClampNeg (2 : Int32)) [(1 : Int32), (1 : Int32), (1 : Int32), (1 : Int32), (1 : Int32), (1 : Int32)] [x0, x1, x2, x3, x4, x5] ([(0 : Int32), (0 : Int32), (0 : Int32), (0 : Int32), (0 : Int32), (0 : Int32)].set ((vr1 * (3 : Int32)) + vs1).toNatClampNeg 1) ([(0 : Int32), (0 : Int32), (0 : Int32), (0 : Int32), (0 : Int32), (0 : Int32), (0 : Int32), (0 : Int32), (0 : Int32), (0 : Int32), (0 : Int32), (0 : Int32), (0 : Int32), (0 : Int32), (0 : Int32), (0 : Int32)].set (0 : Int32).toNatClampNeg ((vr1 * (3 : Int32)) + vs1)) (1 : Int32) := O1068'
                                obtain ⟨Lh1069, Xh1069, Nh1069⟩ := own_hide X1068 N1068
                                refine OGo.on (fun t k => st1068.trans k) ?_
                                show OGo p e below s _ _ _ (T1068.setTop (mkF m 358 #[.val (.int va), .val (.int vcnt), .val (.int vbits), .val (.int vown), .val (.int voth), .val (.int vfl), .val (.int vr1), .val (.int vs1), .val (.int vr2), .val (.int vs2), .val (.int (3 : Int32)), .val (.int vm), .val (.int x12), .val (.int x13), .val (.ref b970), .val (.int x15), .val (.int x16), .val (.int (x16 + vm)), .val (.int x18), .val (.int x19), .val (.long x20), .second, .val (.long x22), .second, .val (.ref b998)] [(.int rv1068)]))
                                refine OGo.on (fun t k => XS.pop Xh1069.here hx rfl (hb hby at_358) rfl rfl k) ?_
                                refine OGo.on (fun t k => XS.iload Xh1069.here hx rfl (hb hby at_359) rfl k) ?_
                                refine OGo.on (fun t k => XS.iconst Xh1069.here hx rfl (hb hby at_361) k) ?_
                                show OGo p e below s _ _ _ (T1068.setTop (mkF m 362 #[.val (.int va), .val (.int vcnt), .val (.int vbits), .val (.int vown), .val (.int voth), .val (.int vfl), .val (.int vr1), .val (.int vs1), .val (.int vr2), .val (.int vs2), .val (.int (3 : Int32)), .val (.int vm), .val (.int x12), .val (.int x13), .val (.ref b970), .val (.int x15), .val (.int x16), .val (.int (x16 + vm)), .val (.int x18), .val (.int x19), .val (.long x20), .second, .val (.long x22), .second, .val (.ref b998)] [(.int (3 : Int32)), (.int (3 : Int32))]))
                                refine OGo.on (fun t k => XS.icmpNo Xh1069.here hx rfl (hb hby at_362) rfl (flt (by decide)).1 k) ?_
                                show OGo p e below s _ _ _ (T1068.setTop (mkF m 365 #[.val (.int va), .val (.int vcnt), .val (.int vbits), .val (.int vown), .val (.int voth), .val (.int vfl), .val (.int vr1), .val (.int vs1), .val (.int vr2), .val (.int vs2), .val (.int (3 : Int32)), .val (.int vm), .val (.int x12), .val (.int x13), .val (.ref b970), .val (.int x15), .val (.int x16), .val (.int (x16 + vm)), .val (.int x18), .val (.int x19), .val (.long x20), .second, .val (.long x22), .second, .val (.ref b998)] []))
                                refine OGo.on (fun t k => XS.aload Xh1069.here hx rfl (hb hby at_365) rfl rfl k) ?_
                                refine OGo.on (fun t k => XS.iload Xh1069.here hx rfl (hb hby at_367) rfl k) ?_
                                refine OGo.on (fun t k => XS.iload Xh1069.here hx rfl (hb hby at_369) rfl k) ?_
                                show OGo p e below s _ _ _ (T1068.setTop (mkF m 371 #[.val (.int va), .val (.int vcnt), .val (.int vbits), .val (.int vown), .val (.int voth), .val (.int vfl), .val (.int vr1), .val (.int vs1), .val (.int vr2), .val (.int vs2), .val (.int (3 : Int32)), .val (.int vm), .val (.int x12), .val (.int x13), .val (.ref b970), .val (.int x15), .val (.int x16), .val (.int (x16 + vm)), .val (.int x18), .val (.int x19), .val (.long x20), .second, .val (.long x22), .second, .val (.ref b998)] [(.int vs1), (.int vr1), (.ref b998)]))
                                have E1070 := O1068.1
                                obtain ⟨cq1070, kq1070, q1070a, q1070b, q1070c⟩ := isOf hZ eh1068 E1070
                                obtain ⟨_, _, ⟨T1070, L1070, k1070, n1070⟩, -, X1070, ⟨Lc1070, hQ1070, l1070, y1070, z1070⟩, st1070⟩ := Xh1069.virtualBack hx (y := (⟨"com/example/slotwright/slotwright/solver/Occupancy", "add", "(II)I"⟩ : MethodName)) (z := (⟨"com/example/slotwright/slotwright/solver/Occupancy", "add", "(II)I"⟩ : MethodName)) hown (mvT hZ (hw _ (List.mem_of_getElem? (i := 36) rfl))) (mvT hZ (hw _ (List.mem_of_getElem? (i := 37) rfl))) (notFace_of_selects (args := #[]) (mvT hZ (hw _ (List.mem_of_getElem? (i := 39) rfl)))) (mvT hZ (hw _ (List.mem_of_getElem? (i := 39) rfl))) (mvT hZ (hw _ (List.mem_of_getElem? (i := 38) rfl))) (by decide) (backOf (W := 0) (own_addB l Z a0 hw [] b998 rm rw b970 rl rk (([(0 : Int32), (0 : Int32), (0 : Int32), (0 : Int32), (0 : Int32), (0 : Int32)].set ((vr1 * (3 : Int32)) + vs1).toNatClampNeg (1 : Int32)).set ((vr1 * (3 : Int32)) + vs1).toNatClampNeg (2 : Int32)) [(1 : Int32), (1 : Int32), (1 : Int32), (1 : Int32), (1 : Int32), (1 : Int32)] [x0, x1, x2, x3, x4, x5] ([(0 : Int32), (0 : Int32), (0 : Int32), (0 : Int32), (0 : Int32), (0 : Int32)].set ((vr1 * (3 : Int32)) + vs1).toNatClampNeg 1) ([(0 : Int32), (0 : Int32), (0 : Int32), (0 : Int32), (0 : Int32), (0 : Int32), (0 : Int32), (0 : Int32), (0 : Int32), (0 : Int32), (0 : Int32), (0 : Int32), (0 : Int32), (0 : Int32), (0 : Int32), (0 : Int32)].set (0 : Int32).toNatClampNeg ((vr1 * (3 : Int32)) + vs1)) (1 : Int32) vr1 vs1 (1 : Int32) (2 : Int32) x19 (1 : Int32) T1068.heap n0 Z1068 hD O1068 (oat_z6 hi 1) (oat_same (oat_same (oat_z6 hi 0) _) _) qcx (oat_same (oat_z6 hi 0) _) (Or.inr (by decide))) hZ (hw _ (List.mem_of_getElem? (i := 40) rfl)) (hw _ (List.mem_of_getElem? (i := 4) rfl)) (by decide) (by decide)) q1070a q1070c (g := (mkF m 371 #[.val (.int va), .val (.int vcnt), .val (.int vbits), .val (.int vown), .val (.int voth), .val (.int vfl), .val (.int vr1), .val (.int vs1), .val (.int vr2), .val (.int vs2), .val (.int (3 : Int32)), .val (.int vm), .val (.int x12), .val (.int x13), .val (.ref b970), .val (.int x15), .val (.int x16), .val (.int (x16 + vm)), .val (.int x18), .val (.int x19), .val (.long x20), .second, .val (.long x22), .second, .val (.ref b998)] [(.int vs1), (.int vr1), (.ref b998)])) rfl (by rw [hml]; rfl) (Steps.refl _) (argsL := [(.int vr1), (.int vs1)]) (rest := []) (lenOf own_pd1 rfl) rfl (by show 2 * 0 + _ ≤ _; exact Nat.le_of_eq rfl) (hb hby at_371) (fun _ _ => ⟨rfl, eh1068, (by decide : 6 + 0 ≤ _), (by decide : 48 + 0 ≤ _)⟩)
                                dsimp only [Pt.U, Pt.locs, Pt.cells, Pt.slots] at X1070 l1070 y1070 z1070 st1070 hQ1070
                                subst l1070 y1070 z1070
                                obtain ⟨⟨rv1070, rfl⟩, N1070q, Z1070, O1070'⟩ := hQ1070
                                have N1070 := Fr.app Nh1069 N1070q
                                have eh1070 : T1070.heap = T1070.heap := rfl
                                have O1070 : OCC Z T1070.heap b998 rm rw b970 rl rk ((([(0 : Int32), (0 : Int32), (0 : Int32), (0 : Int32), (0 : Int32), (0 : Int32)].set ((vr1 * (3 : Int32)) + vs1).toNatClampNeg (1 : Int32)).set ((vr1 * (3 : Int32)) + vs1).toNatClampNeg (2 : Int32)).set ((vr1 * (3 : Int32)) + vs1).toNatClampNeg (3 : Int32)) [(1 : Int32), (1 : Int32), (1 : Int32), (1 : Int32), (1 : Int32), (1 : Int32)] [x0, x1, x2, x3, x4, x5] ([(0 : Int32), (0 : Int32), (0 : Int32), (0 : Int32), (0 : Int32), (0 : Int32)].set ((vr1 * (3 : Int32)) + vs1).toNatClampNeg 1) ([(0 : Int32), (0 : Int32), (0 : Int32), (0 : Int32), (0 : Int32), (0 : Int32), (0 : Int32), (0 : Int32), (0 : Int32), (0 : Int32), (0 : Int32), (0 : Int32), (0 : Int32), (0 : Int32), (0 : Int32), (0 : Int32)].set (0 : Int32).toNatClampNeg ((vr1 * (3 : Int32)) + vs1)) (1 : Int32) := O1070'
                                obtain ⟨Lh1071, Xh1071, Nh1071⟩ := own_hide X1070 N1070
                                refine OGo.on (fun t k => st1070.trans k) ?_
                                show OGo p e below s _ _ _ (T1070.setTop (mkF m 374 #[.val (.int va), .val (.int vcnt), .val (.int vbits), .val (.int vown), .val (.int voth), .val (.int vfl), .val (.int vr1), .val (.int vs1), .val (.int vr2), .val (.int vs2), .val (.int (3 : Int32)), .val (.int vm), .val (.int x12), .val (.int x13), .val (.ref b970), .val (.int x15), .val (.int x16), .val (.int (x16 + vm)), .val (.int x18), .val (.int x19), .val (.long x20), .second, .val (.long x22), .second, .val (.ref b998)] [(.int rv1070)]))
                                refine OGo.on (fun t k => XS.pop Xh1071.here hx rfl (hb hby at_374) rfl rfl k) ?_
                                show OGo p e below s _ _ _ (T1070.setTop (mkF m 375 #[.val (.int va), .val (.int vcnt), .val (.int vbits), .val (.int vown), .val (.int voth), .val (.int vfl), .val (.int vr1), .val (.int vs1), .val (.int vr2), .val (.int vs2), .val (.int (3 : Int32)), .val (.int vm), .val (.int x12), .val (.int x13), .val (.ref b970), .val (.int x15), .val (.int x16), .val (.int (x16 + vm)), .val (.int x18), .val (.int x19), .val (.long x20), .second, .val (.long x22), .second, .val (.ref b998)] []))
                                exact J375 T1070 _ T1070.heap ((([(0 : Int32), (0 : Int32), (0 : Int32), (0 : Int32), (0 : Int32), (0 : Int32)].set ((vr1 * (3 : Int32)) + vs1).toNatClampNeg (1 : Int32)).set ((vr1 * (3 : Int32)) + vs1).toNatClampNeg (2 : Int32)).set ((vr1 * (3 : Int32)) + vs1).toNatClampNeg (3 : Int32)) ([(0 : Int32), (0 : Int32), (0 : Int32), (0 : Int32), (0 : Int32), (0 : Int32)].set ((vr1 * (3 : Int32)) + vs1).toNatClampNeg 1) ([(0 : Int32), (0 : Int32), (0 : Int32), (0 : Int32), (0 : Int32), (0 : Int32), (0 : Int32), (0 : Int32), (0 : Int32), (0 : Int32), (0 : Int32), (0 : Int32), (0 : Int32), (0 : Int32), (0 : Int32), (0 : Int32)].set (0 : Int32).toNatClampNeg ((vr1 * (3 : Int32)) + vs1)) (1 : Int32) (1 : Int32) Xh1071 Nh1071 eh1070 Z1070 O1070 (oat_same (oat_same (oat_same (oat_z6 hi 0) _) _) _) (fun hne => (oat_other (oat_other (oat_other (oat_z6 hj 0) _ hi hj hne) _ hi hj hne) _ hi hj hne)) (oat_same (oat_z6 hi 0) _) (fun hne => oat_other (oat_z6 hj 0) _ hi hj hne) rfl (Or.inr ⟨rfl, rfl, ⟨by decide, rfl⟩, (own_L3 _)⟩)
                          refine OGo.on (fun t k => XS.lload Xh996.here hx rfl (hb hby at_285) rfl k) ?_
                          refine OGo.on (fun t k => XS.iload Xh996.here hx rfl (hb hby at_287) rfl k) ?_
                          refine OGo.on (fun t k => XS.iload Xh996.here hx rfl (hb hby at_289) rfl k) ?_
                          refine OGo.on (fun t k => XS.isub Xh996.here hx rfl (hb hby at_291) rfl k) ?_
                          show OGo p e below s _ _ _ (T993.setTop (mkF m 292 #[.val (.int va), .val (.int vcnt), .val (.int vbits), .val (.int vown), .val (.int voth), .val (.int vfl), .val (.int vr1), .val (.int vs1), .val (.int vr2), .val (.int vs2), .val (.int vk), .val (.int vm), .val (.int x12), .val (.int x13), .val (.ref b970), .val (.int x15), .val (.int x16), .val (.int (x16 + vm)), .val (.int x18), .val (.int x19), .val (.long x20), .second, .unset, .unset, .unset] [(.int ((x16 + vm) - x18)), (.long x20)]))
                          by_cases hc1072 : (0 : Int32) < ((x16 + vm) - x18)
                          · refine OGo.on (fun t k => XS.ifNo Xh996.here hx rfl (hb hby at_292) rfl ((if0 _ _).trans (tlt hc1072).2.2.2) k) ?_
                            show OGo p e below s _ _ _ (T993.setTop (mkF m 295 #[.val (.int va), .val (.int vcnt), .val (.int vbits), .val (.int vown), .val (.int voth), .val (.int vfl), .val (.int vr1), .val (.int vs1), .val (.int vr2), .val (.int vs2), .val (.int vk), .val (.int vm), .val (.int x12), .val (.int x13), .val (.ref b970), .val (.int x15), .val (.int x16), .val (.int (x16 + vm)), .val (.int x18), .val (.int x19), .val (.long x20), .second, .unset, .unset, .unset] [(.long x20)]))
                            refine OGo.on (fun t k => XS.lconst Xh996.here hx rfl (hb hby at_295) k) ?_
                            refine OGo.on (fun t k => XS.goto Xh996.here hx rfl (pc0 := 296) (pc' := 300) rfl (hb hby at_296) (by decide) (by decide) k) ?_
                            refine OGo.on (fun t k => XS.iload Xh996.here hx rfl (hb hby at_300) rfl k) ?_
                            show OGo p e below s _ _ _ (T993.setTop (mkF m 302 #[.val (.int va), .val (.int vcnt), .val (.int vbits), .val (.int vown), .val (.int voth), .val (.int vfl), .val (.int vr1), .val (.int vs1), .val (.int vr2), .val (.int vs2), .val (.int vk), .val (.int vm), .val (.int x12), .val (.int x13), .val (.ref b970), .val (.int x15), .val (.int x16), .val (.int (x16 + vm)), .val (.int x18), .val (.int x19), .val (.long x20), .second, .unset, .unset, .unset] [(.int x19), (.long (1 : Int64)), (.long x20)]))
                            by_cases hc1073 : x19 = (0 : Int32)
                            · refine OGo.on (fun t k => XS.ifYes Xh996.here hx rfl (pc0 := 302) (pc' := 309) rfl (hb hby at_302) rfl ((if0 _ _).trans (teq hc1073).1) (by decide) (by decide) k) ?_
                              show OGo p e below s _ _ _ (T993.setTop (mkF m 309 #[.val (.int va), .val (.int vcnt), .val (.int vbits), .val (.int vown), .val (.int voth), .val (.int vfl), .val (.int vr1), .val (.int vs1), .val (.int vr2), .val (.int vs2), .val (.int vk), .val (.int vm), .val (.int x12), .val (.int x13), .val (.ref b970), .val (.int x15), .val (.int x16), .val (.int (x16 + vm)), .val (.int x18), .val (.int x19), .val (.long x20), .second, .unset, .unset, .unset] [(.long (1 : Int64)), (.long x20)]))
                              refine OGo.on (fun t k => XS.lconst Xh996.here hx rfl (hb hby at_309) k) ?_
                              refine OGo.on (fun t k => XS.ladd Xh996.here hx rfl (hb hby at_310) rfl k) ?_
                              refine OGo.on (fun t k => XS.lmul Xh996.here hx rfl (hb hby at_311) rfl k) ?_
                              refine OGo.on (fun t k => XS.lstore Xh996.here hx rfl (hb hby at_312) rfl (l' := #[.val (.int va), .val (.int vcnt), .val (.int vbits), .val (.int vown), .val (.int voth), .val (.int vfl), .val (.int vr1), .val (.int vs1), .val (.int vr2), .val (.int vs2), .val (.int vk), .val (.int vm), .val (.int x12), .val (.int x13), .val (.ref b970), .val (.int x15), .val (.int x16), .val (.int (x16 + vm)), .val (.int x18), .val (.int x19), .val (.long x20), .second, .val (.long (x20 * (1 : Int64))), .second, .unset]) rfl k) ?_
                              show OGo p e below s _ _ _ (T993.setTop (mkF m 314 #[.val (.int va), .val (.int vcnt), .val (.int vbits), .val (.int vown), .val (.int voth), .val (.int vfl), .val (.int vr1), .val (.int vs1), .val (.int vr2), .val (.int vs2), .val (.int vk), .val (.int vm), .val (.int x12), .val (.int x13), .val (.ref b970), .val (.int x15), .val (.int x16), .val (.int (x16 + vm)), .val (.int x18), .val (.int x19), .val (.long x20), .second, .val (.long (x20 * (1 : Int64))), .second, .unset] []))
                              exact J314 _ (by unfold own_e; rw [if_pos hc1072, if_pos hc1073])
                            · refine OGo.on (fun t k => XS.ifNo Xh996.here hx rfl (hb hby at_302) rfl ((if0 _ _).trans (feq hc1073).1) k) ?_
                              show OGo p e below s _ _ _ (T993.setTop (mkF m 305 #[.val (.int va), .val (.int vcnt), .val (.int vbits), .val (.int vown), .val (.int voth), .val (.int vfl), .val (.int vr1), .val (.int vs1), .val (.int vr2), .val (.int vs2), .val (.int vk), .val (.int vm), .val (.int x12), .val (.int x13), .val (.ref b970), .val (.int x15), .val (.int x16), .val (.int (x16 + vm)), .val (.int x18), .val (.int x19), .val (.long x20), .second, .unset, .unset, .unset] [(.long (1 : Int64)), (.long x20)]))
                              refine OGo.on (fun t k => XS.lconst Xh996.here hx rfl (hb hby at_305) k) ?_
                              refine OGo.on (fun t k => XS.goto Xh996.here hx rfl (pc0 := 306) (pc' := 310) rfl (hb hby at_306) (by decide) (by decide) k) ?_
                              refine OGo.on (fun t k => XS.ladd Xh996.here hx rfl (hb hby at_310) rfl k) ?_
                              refine OGo.on (fun t k => XS.lmul Xh996.here hx rfl (hb hby at_311) rfl k) ?_
                              show OGo p e below s _ _ _ (T993.setTop (mkF m 312 #[.val (.int va), .val (.int vcnt), .val (.int vbits), .val (.int vown), .val (.int voth), .val (.int vfl), .val (.int vr1), .val (.int vs1), .val (.int vr2), .val (.int vs2), .val (.int vk), .val (.int vm), .val (.int x12), .val (.int x13), .val (.ref b970), .val (.int x15), .val (.int x16), .val (.int (x16 + vm)), .val (.int x18), .val (.int x19), .val (.long x20), .second, .unset, .unset, .unset] [(.long (x20 * (2 : Int64)))]))
                              refine OGo.on (fun t k => XS.lstore Xh996.here hx rfl (hb hby at_312) rfl (l' := #[.val (.int va), .val (.int vcnt), .val (.int vbits), .val (.int vown), .val (.int voth), .val (.int vfl), .val (.int vr1), .val (.int vs1), .val (.int vr2), .val (.int vs2), .val (.int vk), .val (.int vm), .val (.int x12), .val (.int x13), .val (.ref b970), .val (.int x15), .val (.int x16), .val (.int (x16 + vm)), .val (.int x18), .val (.int x19), .val (.long x20), .second, .val (.long (x20 * (2 : Int64))), .second, .unset]) rfl k) ?_
                              show OGo p e below s _ _ _ (T993.setTop (mkF m 314 #[.val (.int va), .val (.int vcnt), .val (.int vbits), .val (.int vown), .val (.int voth), .val (.int vfl), .val (.int vr1), .val (.int vs1), .val (.int vr2), .val (.int vs2), .val (.int vk), .val (.int vm), .val (.int x12), .val (.int x13), .val (.ref b970), .val (.int x15), .val (.int x16), .val (.int (x16 + vm)), .val (.int x18), .val (.int x19), .val (.long x20), .second, .val (.long (x20 * (2 : Int64))), .second, .unset] []))
                              exact J314 _ (by unfold own_e; rw [if_pos hc1072, if_neg hc1073])
                          · refine OGo.on (fun t k => XS.ifYes Xh996.here hx rfl (pc0 := 292) (pc' := 299) rfl (hb hby at_292) rfl ((if0 _ _).trans (flt hc1072).2.2.2) (by decide) (by decide) k) ?_
                            show OGo p e below s _ _ _ (T993.setTop (mkF m 299 #[.val (.int va), .val (.int vcnt), .val (.int vbits), .val (.int vown), .val (.int voth), .val (.int vfl), .val (.int vr1), .val (.int vs1), .val (.int vr2), .val (.int vs2), .val (.int vk), .val (.int vm), .val (.int x12), .val (.int x13), .val (.ref b970), .val (.int x15), .val (.int x16), .val (.int (x16 + vm)), .val (.int x18), .val (.int x19), .val (.long x20), .second, .unset, .unset, .unset] [(.long x20)]))
                            refine OGo.on (fun t k => XS.lconst Xh996.here hx rfl (hb hby at_299) k) ?_
                            refine OGo.on (fun t k => XS.iload Xh996.here hx rfl (hb hby at_300) rfl k) ?_
                            show OGo p e below s _ _ _ (T993.setTop (mkF m 302 #[.val (.int va), .val (.int vcnt), .val (.int vbits), .val (.int vown), .val (.int voth), .val (.int vfl), .val (.int vr1), .val (.int vs1), .val (.int vr2), .val (.int vs2), .val (.int vk), .val (.int vm), .val (.int x12), .val (.int x13), .val (.ref b970), .val (.int x15), .val (.int x16), .val (.int (x16 + vm)), .val (.int x18), .val (.int x19), .val (.long x20), .second, .unset, .unset, .unset] [(.int x19), (.long (0 : Int64)), (.long x20)]))
                            by_cases hc1074 : x19 = (0 : Int32)
                            · refine OGo.on (fun t k => XS.ifYes Xh996.here hx rfl (pc0 := 302) (pc' := 309) rfl (hb hby at_302) rfl ((if0 _ _).trans (teq hc1074).1) (by decide) (by decide) k) ?_
                              show OGo p e below s _ _ _ (T993.setTop (mkF m 309 #[.val (.int va), .val (.int vcnt), .val (.int vbits), .val (.int vown), .val (.int voth), .val (.int vfl), .val (.int vr1), .val (.int vs1), .val (.int vr2), .val (.int vs2), .val (.int vk), .val (.int vm), .val (.int x12), .val (.int x13), .val (.ref b970), .val (.int x15), .val (.int x16), .val (.int (x16 + vm)), .val (.int x18), .val (.int x19), .val (.long x20), .second, .unset, .unset, .unset] [(.long (0 : Int64)), (.long x20)]))
                              refine OGo.on (fun t k => XS.lconst Xh996.here hx rfl (hb hby at_309) k) ?_
                              refine OGo.on (fun t k => XS.ladd Xh996.here hx rfl (hb hby at_310) rfl k) ?_
                              refine OGo.on (fun t k => XS.lmul Xh996.here hx rfl (hb hby at_311) rfl k) ?_
                              refine OGo.on (fun t k => XS.lstore Xh996.here hx rfl (hb hby at_312) rfl (l' := #[.val (.int va), .val (.int vcnt), .val (.int vbits), .val (.int vown), .val (.int voth), .val (.int vfl), .val (.int vr1), .val (.int vs1), .val (.int vr2), .val (.int vs2), .val (.int vk), .val (.int vm), .val (.int x12), .val (.int x13), .val (.ref b970), .val (.int x15), .val (.int x16), .val (.int (x16 + vm)), .val (.int x18), .val (.int x19), .val (.long x20), .second, .val (.long (x20 * (0 : Int64))), .second, .unset]) rfl k) ?_
                              show OGo p e below s _ _ _ (T993.setTop (mkF m 314 #[.val (.int va), .val (.int vcnt), .val (.int vbits), .val (.int vown), .val (.int voth), .val (.int vfl), .val (.int vr1), .val (.int vs1), .val (.int vr2), .val (.int vs2), .val (.int vk), .val (.int vm), .val (.int x12), .val (.int x13), .val (.ref b970), .val (.int x15), .val (.int x16), .val (.int (x16 + vm)), .val (.int x18), .val (.int x19), .val (.long x20), .second, .val (.long (x20 * (0 : Int64))), .second, .unset] []))
                              exact J314 _ (by unfold own_e; rw [if_neg hc1072, if_pos hc1074])
                            · refine OGo.on (fun t k => XS.ifNo Xh996.here hx rfl (hb hby at_302) rfl ((if0 _ _).trans (feq hc1074).1) k) ?_
                              show OGo p e below s _ _ _ (T993.setTop (mkF m 305 #[.val (.int va), .val (.int vcnt), .val (.int vbits), .val (.int vown), .val (.int voth), .val (.int vfl), .val (.int vr1), .val (.int vs1), .val (.int vr2), .val (.int vs2), .val (.int vk), .val (.int vm), .val (.int x12), .val (.int x13), .val (.ref b970), .val (.int x15), .val (.int x16), .val (.int (x16 + vm)), .val (.int x18), .val (.int x19), .val (.long x20), .second, .unset, .unset, .unset] [(.long (0 : Int64)), (.long x20)]))
                              refine OGo.on (fun t k => XS.lconst Xh996.here hx rfl (hb hby at_305) k) ?_
                              refine OGo.on (fun t k => XS.goto Xh996.here hx rfl (pc0 := 306) (pc' := 310) rfl (hb hby at_306) (by decide) (by decide) k) ?_
                              refine OGo.on (fun t k => XS.ladd Xh996.here hx rfl (hb hby at_310) rfl k) ?_
                              refine OGo.on (fun t k => XS.lmul Xh996.here hx rfl (hb hby at_311) rfl k) ?_
                              show OGo p e below s _ _ _ (T993.setTop (mkF m 312 #[.val (.int va), .val (.int vcnt), .val (.int vbits), .val (.int vown), .val (.int voth), .val (.int vfl), .val (.int vr1), .val (.int vs1), .val (.int vr2), .val (.int vs2), .val (.int vk), .val (.int vm), .val (.int x12), .val (.int x13), .val (.ref b970), .val (.int x15), .val (.int x16), .val (.int (x16 + vm)), .val (.int x18), .val (.int x19), .val (.long x20), .second, .unset, .unset, .unset] [(.long (x20 * (1 : Int64)))]))
                              refine OGo.on (fun t k => XS.lstore Xh996.here hx rfl (hb hby at_312) rfl (l' := #[.val (.int va), .val (.int vcnt), .val (.int vbits), .val (.int vown), .val (.int voth), .val (.int vfl), .val (.int vr1), .val (.int vs1), .val (.int vr2), .val (.int vs2), .val (.int vk), .val (.int vm), .val (.int x12), .val (.int x13), .val (.ref b970), .val (.int x15), .val (.int x16), .val (.int (x16 + vm)), .val (.int x18), .val (.int x19), .val (.long x20), .second, .val (.long (x20 * (1 : Int64))), .second, .unset]) rfl k) ?_
                              show OGo p e below s _ _ _ (T993.setTop (mkF m 314 #[.val (.int va), .val (.int vcnt), .val (.int vbits), .val (.int vown), .val (.int voth), .val (.int vfl), .val (.int vr1), .val (.int vs1), .val (.int vr2), .val (.int vs2), .val (.int vk), .val (.int vm), .val (.int x12), .val (.int x13), .val (.ref b970), .val (.int x15), .val (.int x16), .val (.int (x16 + vm)), .val (.int x18), .val (.int x19), .val (.long x20), .second, .val (.long (x20 * (1 : Int64))), .second, .unset] []))
                              exact J314 _ (by unfold own_e; rw [if_neg hc1072, if_neg hc1074])
                        refine OGo.on (fun t k => XS.iload Xh996.here hx rfl (hb hby at_258) rfl k) ?_
                        show OGo p e below s _ _ _ (T993.setTop (mkF m 260 #[.val (.int va), .val (.int vcnt), .val (.int vbits), .val (.int vown), .val (.int voth), .val (.int vfl), .val (.int vr1), .val (.int vs1), .val (.int vr2), .val (.int vs2), .val (.int vk), .val (.int vm), .val (.int x12), .val (.int x13), .val (.ref b970), .val (.int x15), .val (.int x16), .val (.int (x16 + vm)), .val (.int x18), .val (.int x19), .val (.long (1 : Int64)), .second, .unset, .unset, .unset] [(.int x12)]))
                        by_cases hc1075 : x12 = (0 : Int32)
                        · refine OGo.on (fun t k => XS.ifYes Xh996.here hx rfl (pc0 := 260) (pc' := 285) rfl (hb hby at_260) rfl ((if0 _ _).trans (teq hc1075).1) (by decide) (by decide) k) ?_
                          show OGo p e below s _ _ _ (T993.setTop (mkF m 285 #[.val (.int va), .val (.int vcnt), .val (.int vbits), .val (.int vown), .val (.int voth), .val (.int vfl), .val (.int vr1), .val (.int vs1), .val (.int vr2), .val (.int vs2), .val (.int vk), .val (.int vm), .val (.int x12), .val (.int x13), .val (.ref b970), .val (.int x15), .val (.int x16), .val (.int (x16 + vm)), .val (.int x18), .val (.int x19), .val (.long (1 : Int64)), .second, .unset, .unset, .unset] []))
                          exact J285 _ (by unfold own_w; rw [if_pos hc1075])
                        · refine OGo.on (fun t k => XS.ifNo Xh996.here hx rfl (hb hby at_260) rfl ((if0 _ _).trans (feq hc1075).1) k) ?_
                          show OGo p e below s _ _ _ (T993.setTop (mkF m 263 #[.val (.int va), .val (.int vcnt), .val (.int vbits), .val (.int vown), .val (.int voth), .val (.int vfl), .val (.int vr1), .val (.int vs1), .val (.int vr2), .val (.int vs2), .val (.int vk), .val (.int vm), .val (.int x12), .val (.int x13), .val (.ref b970), .val (.int x15), .val (.int x16), .val (.int (x16 + vm)), .val (.int x18), .val (.int x19), .val (.long (1 : Int64)), .second, .unset, .unset, .unset] []))
                          refine OGo.on (fun t k => XS.iload Xh996.here hx rfl (hb hby at_263) rfl k) ?_
                          refine OGo.on (fun t k => XS.iconst Xh996.here hx rfl (hb hby at_265) k) ?_
                          show OGo p e below s _ _ _ (T993.setTop (mkF m 266 #[.val (.int va), .val (.int vcnt), .val (.int vbits), .val (.int vown), .val (.int voth), .val (.int vfl), .val (.int vr1), .val (.int vs1), .val (.int vr2), .val (.int vs2), .val (.int vk), .val (.int vm), .val (.int x12), .val (.int x13), .val (.ref b970), .val (.int x15), .val (.int x16), .val (.int (x16 + vm)), .val (.int x18), .val (.int x19), .val (.long (1 : Int64)), .second, .unset, .unset, .unset] [(.int (2 : Int32)), (.int x16)]))
                          by_cases hc1076 : x16 < (2 : Int32)
                          · refine OGo.on (fun t k => XS.icmpNo Xh996.here hx rfl (hb hby at_266) rfl (tlt hc1076).2.1 k) ?_
                            show OGo p e below s _ _ _ (T993.setTop (mkF m 269 #[.val (.int va), .val (.int vcnt), .val (.int vbits), .val (.int vown), .val (.int voth), .val (.int vfl), .val (.int vr1), .val (.int vs1), .val (.int vr2), .val (.int vs2), .val (.int vk), .val (.int vm), .val (.int x12), .val (.int x13), .val (.ref b970), .val (.int x15), .val (.int x16), .val (.int (x16 + vm)), .val (.int x18), .val (.int x19), .val (.long (1 : Int64)), .second, .unset, .unset, .unset] []))
                            refine OGo.on (fun t k => XS.iload Xh996.here hx rfl (hb hby at_269) rfl k) ?_
                            show OGo p e below s _ _ _ (T993.setTop (mkF m 271 #[.val (.int va), .val (.int vcnt), .val (.int vbits), .val (.int vown), .val (.int voth), .val (.int vfl), .val (.int vr1), .val (.int vs1), .val (.int vr2), .val (.int vs2), .val (.int vk), .val (.int vm), .val (.int x12), .val (.int x13), .val (.ref b970), .val (.int x15), .val (.int x16), .val (.int (x16 + vm)), .val (.int x18), .val (.int x19), .val (.long (1 : Int64)), .second, .unset, .unset, .unset] [(.int x19)]))
                            by_cases hc1077 : x19 = (0 : Int32)
                            · refine OGo.on (fun t k => XS.ifYes Xh996.here hx rfl (pc0 := 271) (pc' := 285) rfl (hb hby at_271) rfl ((if0 _ _).trans (teq hc1077).1) (by decide) (by decide) k) ?_
                              show OGo p e below s _ _ _ (T993.setTop (mkF m 285 #[.val (.int va), .val (.int vcnt), .val (.int vbits), .val (.int vown), .val (.int voth), .val (.int vfl), .val (.int vr1), .val (.int vs1), .val (.int vr2), .val (.int vs2), .val (.int vk), .val (.int vm), .val (.int x12), .val (.int x13), .val (.ref b970), .val (.int x15), .val (.int x16), .val (.int (x16 + vm)), .val (.int x18), .val (.int x19), .val (.long (1 : Int64)), .second, .unset, .unset, .unset] []))
                              exact J285 _ (by unfold own_w; rw [if_neg hc1075, if_pos hc1076, if_pos hc1077])
                            · refine OGo.on (fun t k => XS.ifNo Xh996.here hx rfl (hb hby at_271) rfl ((if0 _ _).trans (feq hc1077).1) k) ?_
                              show OGo p e below s _ _ _ (T993.setTop (mkF m 274 #[.val (.int va), .val (.int vcnt), .val (.int vbits), .val (.int vown), .val (.int voth), .val (.int vfl), .val (.int vr1), .val (.int vs1), .val (.int vr2), .val (.int vs2), .val (.int vk), .val (.int vm), .val (.int x12), .val (.int x13), .val (.ref b970), .val (.int x15), .val (.int x16), .val (.int (x16 + vm)), .val (.int x18), .val (.int x19), .val (.long (1 : Int64)), .second, .unset, .unset, .unset] []))
                              refine OGo.on (fun t k => XS.iload Xh996.here hx rfl (hb hby at_274) rfl k) ?_
                              refine OGo.on (fun t k => XS.iconst Xh996.here hx rfl (hb hby at_276) k) ?_
                              show OGo p e below s _ _ _ (T993.setTop (mkF m 277 #[.val (.int va), .val (.int vcnt), .val (.int vbits), .val (.int vown), .val (.int voth), .val (.int vfl), .val (.int vr1), .val (.int vs1), .val (.int vr2), .val (.int vs2), .val (.int vk), .val (.int vm), .val (.int x12), .val (.int x13), .val (.ref b970), .val (.int x15), .val (.int x16), .val (.int (x16 + vm)), .val (.int x18), .val (.int x19), .val (.long (1 : Int64)), .second, .unset, .unset, .unset] [(.int (1 : Int32)), (.int x16)]))
                              by_cases hc1078 : x16 < (1 : Int32)
                              · refine OGo.on (fun t k => XS.icmpYes Xh996.here hx rfl (pc0 := 277) (pc' := 285) rfl (hb hby at_277) rfl (tlt hc1078).1 (by decide) (by decide) k) ?_
                                show OGo p e below s _ _ _ (T993.setTop (mkF m 285 #[.val (.int va), .val (.int vcnt), .val (.int vbits), .val (.int vown), .val (.int voth), .val (.int vfl), .val (.int vr1), .val (.int vs1), .val (.int vr2), .val (.int vs2), .val (.int vk), .val (.int vm), .val (.int x12), .val (.int x13), .val (.ref b970), .val (.int x15), .val (.int x16), .val (.int (x16 + vm)), .val (.int x18), .val (.int x19), .val (.long (1 : Int64)), .second, .unset, .unset, .unset] []))
                                exact J285 _ (by unfold own_w; rw [if_neg hc1075, if_pos hc1076, if_neg hc1077, if_pos hc1078])
                              · refine OGo.on (fun t k => XS.icmpNo Xh996.here hx rfl (hb hby at_277) rfl (flt hc1078).1 k) ?_
                                show OGo p e below s _ _ _ (T993.setTop (mkF m 280 #[.val (.int va), .val (.int vcnt), .val (.int vbits), .val (.int vown), .val (.int voth), .val (.int vfl), .val (.int vr1), .val (.int vs1), .val (.int vr2), .val (.int vs2), .val (.int vk), .val (.int vm), .val (.int x12), .val (.int x13), .val (.ref b970), .val (.int x15), .val (.int x16), .val (.int (x16 + vm)), .val (.int x18), .val (.int x19), .val (.long (1 : Int64)), .second, .unset, .unset, .unset] []))
                                refine OGo.on (fun t k => Xh996.ldc2J hx hown (mvT hZ (hw _ (List.mem_of_getElem? (i := 1) rfl))) (g := (mkF m 280 #[.val (.int va), .val (.int vcnt), .val (.int vbits), .val (.int vown), .val (.int voth), .val (.int vfl), .val (.int vr1), .val (.int vs1), .val (.int vr2), .val (.int vs2), .val (.int vk), .val (.int vm), .val (.int x12), .val (.int x13), .val (.ref b970), .val (.int x15), .val (.int x16), .val (.int (x16 + vm)), .val (.int x18), .val (.int x19), .val (.long (1 : Int64)), .second, .unset, .unset, .unset] [])) rfl (hb hby at_280) k) ?_
                                show OGo p e below s _ _ _ (T993.setTop (mkF m 283 #[.val (.int va), .val (.int vcnt), .val (.int vbits), .val (.int vown), .val (.int voth), .val (.int vfl), .val (.int vr1), .val (.int vs1), .val (.int vr2), .val (.int vs2), .val (.int vk), .val (.int vm), .val (.int x12), .val (.int x13), .val (.ref b970), .val (.int x15), .val (.int x16), .val (.int (x16 + vm)), .val (.int x18), .val (.int x19), .val (.long (1 : Int64)), .second, .unset, .unset, .unset] [(.long (2 : Int64))]))
                                refine OGo.on (fun t k => XS.lstore Xh996.here hx rfl (hb hby at_283) rfl (l' := #[.val (.int va), .val (.int vcnt), .val (.int vbits), .val (.int vown), .val (.int voth), .val (.int vfl), .val (.int vr1), .val (.int vs1), .val (.int vr2), .val (.int vs2), .val (.int vk), .val (.int vm), .val (.int x12), .val (.int x13), .val (.ref b970), .val (.int x15), .val (.int x16), .val (.int (x16 + vm)), .val (.int x18), .val (.int x19), .val (.long (2 : Int64)), .second, .unset, .unset, .unset]) rfl k) ?_
                                show OGo p e below s _ _ _ (T993.setTop (mkF m 285 #[.val (.int va), .val (.int vcnt), .val (.int vbits), .val (.int vown), .val (.int voth), .val (.int vfl), .val (.int vr1), .val (.int vs1), .val (.int vr2), .val (.int vs2), .val (.int vk), .val (.int vm), .val (.int x12), .val (.int x13), .val (.ref b970), .val (.int x15), .val (.int x16), .val (.int (x16 + vm)), .val (.int x18), .val (.int x19), .val (.long (2 : Int64)), .second, .unset, .unset, .unset] []))
                                exact J285 _ (by unfold own_w; rw [if_neg hc1075, if_pos hc1076, if_neg hc1077, if_neg hc1078])
                          · refine OGo.on (fun t k => XS.icmpYes Xh996.here hx rfl (pc0 := 266) (pc' := 280) rfl (hb hby at_266) rfl (flt hc1076).2.1 (by decide) (by decide) k) ?_
                            show OGo p e below s _ _ _ (T993.setTop (mkF m 280 #[.val (.int va), .val (.int vcnt), .val (.int vbits), .val (.int vown), .val (.int voth), .val (.int vfl), .val (.int vr1), .val (.int vs1), .val (.int vr2), .val (.int vs2), .val (.int vk), .val (.int vm), .val (.int x12), .val (.int x13), .val (.ref b970), .val (.int x15), .val (.int x16), .val (.int (x16 + vm)), .val (.int x18), .val (.int x19), .val (.long (1 : Int64)), .second, .unset, .unset, .unset] []))
                            refine OGo.on (fun t k => Xh996.ldc2J hx hown (mvT hZ (hw _ (List.mem_of_getElem? (i := 1) rfl))) (g := (mkF m 280 #[.val (.int va), .val (.int vcnt), .val (.int vbits), .val (.int vown), .val (.int voth), .val (.int vfl), .val (.int vr1), .val (.int vs1), .val (.int vr2), .val (.int vs2), .val (.int vk), .val (.int vm), .val (.int x12), .val (.int x13), .val (.ref b970), .val (.int x15), .val (.int x16), .val (.int (x16 + vm)), .val (.int x18), .val (.int x19), .val (.long (1 : Int64)), .second, .unset, .unset, .unset] [])) rfl (hb hby at_280) k) ?_
                            show OGo p e below s _ _ _ (T993.setTop (mkF m 283 #[.val (.int va), .val (.int vcnt), .val (.int vbits), .val (.int vown), .val (.int voth), .val (.int vfl), .val (.int vr1), .val (.int vs1), .val (.int vr2), .val (.int vs2), .val (.int vk), .val (.int vm), .val (.int x12), .val (.int x13), .val (.ref b970), .val (.int x15), .val (.int x16), .val (.int (x16 + vm)), .val (.int x18), .val (.int x19), .val (.long (1 : Int64)), .second, .unset, .unset, .unset] [(.long (2 : Int64))]))
                            refine OGo.on (fun t k => XS.lstore Xh996.here hx rfl (hb hby at_283) rfl (l' := #[.val (.int va), .val (.int vcnt), .val (.int vbits), .val (.int vown), .val (.int voth), .val (.int vfl), .val (.int vr1), .val (.int vs1), .val (.int vr2), .val (.int vs2), .val (.int vk), .val (.int vm), .val (.int x12), .val (.int x13), .val (.ref b970), .val (.int x15), .val (.int x16), .val (.int (x16 + vm)), .val (.int x18), .val (.int x19), .val (.long (2 : Int64)), .second, .unset, .unset, .unset]) rfl k) ?_
                            show OGo p e below s _ _ _ (T993.setTop (mkF m 285 #[.val (.int va), .val (.int vcnt), .val (.int vbits), .val (.int vown), .val (.int voth), .val (.int vfl), .val (.int vr1), .val (.int vs1), .val (.int vr2), .val (.int vs2), .val (.int vk), .val (.int vm), .val (.int x12), .val (.int x13), .val (.ref b970), .val (.int x15), .val (.int x16), .val (.int (x16 + vm)), .val (.int x18), .val (.int x19), .val (.long (2 : Int64)), .second, .unset, .unset, .unset] []))
                            exact J285 _ (by unfold own_w; rw [if_neg hc1075, if_neg hc1076])
                      refine OGo.on (fun t k => XS.iloadN Xh996.here hx rfl (hb hby at_234) rfl k) ?_
                      refine OGo.on (fun t k => XS.iload Xh996.here hx rfl (hb hby at_235) rfl k) ?_
                      refine OGo.on (fun t k => XS.iconst Xh996.here hx rfl (hb hby at_237) k) ?_
                      refine OGo.on (fun t k => XS.imul Xh996.here hx rfl (hb hby at_238) rfl k) ?_
                      show OGo p e below s _ _ _ (T993.setTop (mkF m 239 #[.val (.int va), .val (.int vcnt), .val (.int vbits), .val (.int vown), .val (.int voth), .val (.int vfl), .val (.int vr1), .val (.int vs1), .val (.int vr2), .val (.int vs2), .val (.int vk), .val (.int vm), .val (.int x12), .val (.int x13), .val (.ref b970), .val (.int x15), .val (.int x16), .val (.int (x16 + vm)), .val (.int x18), .unset, .unset, .unset, .unset, .unset, .unset] [(.int (vr1 * (3 : Int32))), (.int vbits)]))
                      refine OGo.on (fun t k => XS.iload Xh996.here hx rfl (hb hby at_239) rfl k) ?_
                      refine OGo.on (fun t k => XS.iadd Xh996.here hx rfl (hb hby at_241) rfl k) ?_
                      refine OGo.on (fun t k => XS.ishr Xh996.here hx rfl (hb hby at_242) rfl k) ?_
                      refine OGo.on (fun t k => XS.iconst Xh996.here hx rfl (hb hby at_243) k) ?_
                      show OGo p e below s _ _ _ (T993.setTop (mkF m 244 #[.val (.int va), .val (.int vcnt), .val (.int vbits), .val (.int vown), .val (.int voth), .val (.int vfl), .val (.int vr1), .val (.int vs1), .val (.int vr2), .val (.int vs2), .val (.int vk), .val (.int vm), .val (.int x12), .val (.int x13), .val (.ref b970), .val (.int x15), .val (.int x16), .val (.int (x16 + vm)), .val (.int x18), .unset, .unset, .unset, .unset, .unset, .unset] [(.int (1 : Int32)), (.int (vbits >>> (((vr1 * (3 : Int32)) + vs1) &&& 31)))]))
                      refine OGo.on (fun t k => XS.iand Xh996.here hx rfl (hb hby at_244) rfl k) ?_
                      show OGo p e below s _ _ _ (T993.setTop (mkF m 245 #[.val (.int va), .val (.int vcnt), .val (.int vbits), .val (.int vown), .val (.int voth), .val (.int vfl), .val (.int vr1), .val (.int vs1), .val (.int vr2), .val (.int vs2), .val (.int vk), .val (.int vm), .val (.int x12), .val (.int x13), .val (.ref b970), .val (.int x15), .val (.int x16), .val (.int (x16 + vm)), .val (.int x18), .unset, .unset, .unset, .unset, .unset, .unset] [(.int ((vbits >>> (((vr1 * (3 : Int32)) + vs1) &&& 31)) &&& (1 : Int32)))]))
                      by_cases hc1079 : ((vbits >>> (((vr1 * (3 : Int32)) + vs1) &&& 31)) &&& (1 : Int32)) = (0 : Int32)
                      · refine OGo.on (fun t k => XS.ifYes Xh996.here hx rfl (pc0 := 245) (pc' := 252) rfl (hb hby at_245) rfl ((if0 _ _).trans (teq hc1079).1) (by decide) (by decide) k) ?_
                        show OGo p e below s _ _ _ (T993.setTop (mkF m 252 #[.val (.int va), .val (.int vcnt), .val (.int vbits), .val (.int vown), .val (.int voth), .val (.int vfl), .val (.int vr1), .val (.int vs1), .val (.int vr2), .val (.int vs2), .val (.int vk), .val (.int vm), .val (.int x12), .val (.int x13), .val (.ref b970), .val (.int x15), .val (.int x16), .val (.int (x16 + vm)), .val (.int x18), .unset, .unset, .unset, .unset, .unset, .unset] []))
                        refine OGo.on (fun t k => XS.iconst Xh996.here hx rfl (hb hby at_252) k) ?_
                        refine OGo.on (fun t k => XS.istore Xh996.here hx rfl (hb hby at_253) rfl (l' := #[.val (.int va), .val (.int vcnt), .val (.int vbits), .val (.int vown), .val (.int voth), .val (.int vfl), .val (.int vr1), .val (.int vs1), .val (.int vr2), .val (.int vs2), .val (.int vk), .val (.int vm), .val (.int x12), .val (.int x13), .val (.ref b970), .val (.int x15), .val (.int x16), .val (.int (x16 + vm)), .val (.int x18), .val (.int (0 : Int32)), .unset, .unset, .unset, .unset, .unset]) rfl k) ?_
                        show OGo p e below s _ _ _ (T993.setTop (mkF m 255 #[.val (.int va), .val (.int vcnt), .val (.int vbits), .val (.int vown), .val (.int voth), .val (.int vfl), .val (.int vr1), .val (.int vs1), .val (.int vr2), .val (.int vs2), .val (.int vk), .val (.int vm), .val (.int x12), .val (.int x13), .val (.ref b970), .val (.int x15), .val (.int x16), .val (.int (x16 + vm)), .val (.int x18), .val (.int (0 : Int32)), .unset, .unset, .unset, .unset, .unset] []))
                        exact J255 _ (by unfold own_bitp; rw [if_pos hc1079])
                      · refine OGo.on (fun t k => XS.ifNo Xh996.here hx rfl (hb hby at_245) rfl ((if0 _ _).trans (feq hc1079).1) k) ?_
                        show OGo p e below s _ _ _ (T993.setTop (mkF m 248 #[.val (.int va), .val (.int vcnt), .val (.int vbits), .val (.int vown), .val (.int voth), .val (.int vfl), .val (.int vr1), .val (.int vs1), .val (.int vr2), .val (.int vs2), .val (.int vk), .val (.int vm), .val (.int x12), .val (.int x13), .val (.ref b970), .val (.int x15), .val (.int x16), .val (.int (x16 + vm)), .val (.int x18), .unset, .unset, .unset, .unset, .unset, .unset] []))
                        refine OGo.on (fun t k => XS.iconst Xh996.here hx rfl (hb hby at_248) k) ?_
                        refine OGo.on (fun t k => XS.goto Xh996.here hx rfl (pc0 := 249) (pc' := 253) rfl (hb hby at_249) (by decide) (by decide) k) ?_
                        refine OGo.on (fun t k => XS.istore Xh996.here hx rfl (hb hby at_253) rfl (l' := #[.val (.int va), .val (.int vcnt), .val (.int vbits), .val (.int vown), .val (.int voth), .val (.int vfl), .val (.int vr1), .val (.int vs1), .val (.int vr2), .val (.int vs2), .val (.int vk), .val (.int vm), .val (.int x12), .val (.int x13), .val (.ref b970), .val (.int x15), .val (.int x16), .val (.int (x16 + vm)), .val (.int x18), .val (.int (1 : Int32)), .unset, .unset, .unset, .unset, .unset]) rfl k) ?_
                        show OGo p e below s _ _ _ (T993.setTop (mkF m 255 #[.val (.int va), .val (.int vcnt), .val (.int vbits), .val (.int vown), .val (.int voth), .val (.int vfl), .val (.int vr1), .val (.int vs1), .val (.int vr2), .val (.int vs2), .val (.int vk), .val (.int vm), .val (.int x12), .val (.int x13), .val (.ref b970), .val (.int x15), .val (.int x16), .val (.int (x16 + vm)), .val (.int x18), .val (.int (1 : Int32)), .unset, .unset, .unset, .unset, .unset] []))
                        exact J255 _ (by unfold own_bitp; rw [if_neg hc1079])
                    refine OGo.on (fun t k => XS.iload Xh996.here hx rfl (hb hby at_220) rfl k) ?_
                    show OGo p e below s _ _ _ (T993.setTop (mkF m 222 #[.val (.int va), .val (.int vcnt), .val (.int vbits), .val (.int vown), .val (.int voth), .val (.int vfl), .val (.int vr1), .val (.int vs1), .val (.int vr2), .val (.int vs2), .val (.int vk), .val (.int vm), .val (.int x12), .val (.int x13), .val (.ref b970), .val (.int x15), .val (.int x16), .val (.int (x16 + vm)), .unset, .unset, .unset, .unset, .unset, .unset, .unset] [(.int (x16 + vm))]))
                    by_cases hc1080 : (0 : Int32) < (x16 + vm)
                    · refine OGo.on (fun t k => XS.ifNo Xh996.here hx rfl (hb hby at_222) rfl ((if0 _ _).trans (tlt hc1080).2.2.2) k) ?_
                      show OGo p e below s _ _ _ (T993.setTop (mkF m 225 #[.val (.int va), .val (.int vcnt), .val (.int vbits), .val (.int vown), .val (.int voth), .val (.int vfl), .val (.int vr1), .val (.int vs1), .val (.int vr2), .val (.int vs2), .val (.int vk), .val (.int vm), .val (.int x12), .val (.int x13), .val (.ref b970), .val (.int x15), .val (.int x16), .val (.int (x16 + vm)), .unset, .unset, .unset, .unset, .unset, .unset, .unset] []))
                      refine OGo.on (fun t k => XS.iloadN Xh996.here hx rfl (hb hby at_225) rfl k) ?_
                      refine OGo.on (fun t k => XS.iconst Xh996.here hx rfl (hb hby at_226) k) ?_
                      refine OGo.on (fun t k => XS.iand Xh996.here hx rfl (hb hby at_227) rfl k) ?_
                      refine OGo.on (fun t k => XS.goto Xh996.here hx rfl (pc0 := 228) (pc' := 232) rfl (hb hby at_228) (by decide) (by decide) k) ?_
                      show OGo p e below s _ _ _ (T993.setTop (mkF m 232 #[.val (.int va), .val (.int vcnt), .val (.int vbits), .val (.int vown), .val (.int voth), .val (.int vfl), .val (.int vr1), .val (.int vs1), .val (.int vr2), .val (.int vs2), .val (.int vk), .val (.int vm), .val (.int x12), .val (.int x13), .val (.ref b970), .val (.int x15), .val (.int x16), .val (.int (x16 + vm)), .unset, .unset, .unset, .unset, .unset, .unset, .unset] [(.int (vown &&& (1 : Int32)))]))
                      refine OGo.on (fun t k => XS.istore Xh996.here hx rfl (hb hby at_232) rfl (l' := #[.val (.int va), .val (.int vcnt), .val (.int vbits), .val (.int vown), .val (.int voth), .val (.int vfl), .val (.int vr1), .val (.int vs1), .val (.int vr2), .val (.int vs2), .val (.int vk), .val (.int vm), .val (.int x12), .val (.int x13), .val (.ref b970), .val (.int x15), .val (.int x16), .val (.int (x16 + vm)), .val (.int (vown &&& (1 : Int32))), .unset, .unset, .unset, .unset, .unset, .unset]) rfl k) ?_
                      show OGo p e below s _ _ _ (T993.setTop (mkF m 234 #[.val (.int va), .val (.int vcnt), .val (.int vbits), .val (.int vown), .val (.int voth), .val (.int vfl), .val (.int vr1), .val (.int vs1), .val (.int vr2), .val (.int vs2), .val (.int vk), .val (.int vm), .val (.int x12), .val (.int x13), .val (.ref b970), .val (.int x15), .val (.int x16), .val (.int (x16 + vm)), .val (.int (vown &&& (1 : Int32))), .unset, .unset, .unset, .unset, .unset, .unset] []))
                      exact J234 _
                    · refine OGo.on (fun t k => XS.ifYes Xh996.here hx rfl (pc0 := 222) (pc' := 231) rfl (hb hby at_222) rfl ((if0 _ _).trans (flt hc1080).2.2.2) (by decide) (by decide) k) ?_
                      show OGo p e below s _ _ _ (T993.setTop (mkF m 231 #[.val (.int va), .val (.int vcnt), .val (.int vbits), .val (.int vown), .val (.int voth), .val (.int vfl), .val (.int vr1), .val (.int vs1), .val (.int vr2), .val (.int vs2), .val (.int vk), .val (.int vm), .val (.int x12), .val (.int x13), .val (.ref b970), .val (.int x15), .val (.int x16), .val (.int (x16 + vm)), .unset, .unset, .unset, .unset, .unset, .unset, .unset] []))
                      refine OGo.on (fun t k => XS.iconst Xh996.here hx rfl (hb hby at_231) k) ?_
                      refine OGo.on (fun t k => XS.istore Xh996.here hx rfl (hb hby at_232) rfl (l' := #[.val (.int va), .val (.int vcnt), .val (.int vbits), .val (.int vown), .val (.int voth), .val (.int vfl), .val (.int vr1), .val (.int vs1), .val (.int vr2), .val (.int vs2), .val (.int vk), .val (.int vm), .val (.int x12), .val (.int x13), .val (.ref b970), .val (.int x15), .val (.int x16), .val (.int (x16 + vm)), .val (.int (0 : Int32)), .unset, .unset, .unset, .unset, .unset, .unset]) rfl k) ?_
                      show OGo p e below s _ _ _ (T993.setTop (mkF m 234 #[.val (.int va), .val (.int vcnt), .val (.int vbits), .val (.int vown), .val (.int voth), .val (.int vfl), .val (.int vr1), .val (.int vs1), .val (.int vr2), .val (.int vs2), .val (.int vk), .val (.int vm), .val (.int x12), .val (.int x13), .val (.ref b970), .val (.int x15), .val (.int x16), .val (.int (x16 + vm)), .val (.int (0 : Int32)), .unset, .unset, .unset, .unset, .unset, .unset] []))
                      exact J234 _
                  refine OGo.on (fun t k => XS.iload Xh996.here hx rfl (hb hby at_193) rfl k) ?_
                  refine OGo.on (fun t k => XS.iload Xh996.here hx rfl (hb hby at_195) rfl k) ?_
                  show OGo p e below s _ _ _ (T993.setTop (mkF m 197 #[.val (.int va), .val (.int vcnt), .val (.int vbits), .val (.int vown), .val (.int voth), .val (.int vfl), .val (.int vr1), .val (.int vs1), .val (.int vr2), .val (.int vs2), .val (.int vk), .val (.int vm), .val (.int x12), .val (.int x13), .val (.ref b970), .val (.int x15), .unset, .unset, .unset, .unset, .unset, .unset, .unset, .unset, .unset] [(.int x13), (.int vk)]))
                  by_cases hc1081 : x13 = (0 : Int32)
                  · refine OGo.on (fun t k => XS.ifYes Xh996.here hx rfl (pc0 := 197) (pc' := 209) rfl (hb hby at_197) rfl ((if0 _ _).trans (teq hc1081).1) (by decide) (by decide) k) ?_
                    show OGo p e below s _ _ _ (T993.setTop (mkF m 209 #[.val (.int va), .val (.int vcnt), .val (.int vbits), .val (.int vown), .val (.int voth), .val (.int vfl), .val (.int vr1), .val (.int vs1), .val (.int vr2), .val (.int vs2), .val (.int vk), .val (.int vm), .val (.int x12), .val (.int x13), .val (.ref b970), .val (.int x15), .unset, .unset, .unset, .unset, .unset, .unset, .unset, .unset, .unset] [(.int vk)]))
                    refine OGo.on (fun t k => XS.iconst Xh996.here hx rfl (hb hby at_209) k) ?_
                    refine OGo.on (fun t k => XS.iadd Xh996.here hx rfl (hb hby at_210) rfl k) ?_
                    refine OGo.on (fun t k => XS.istore Xh996.here hx rfl (hb hby at_211) rfl (l' := #[.val (.int va), .val (.int vcnt), .val (.int vbits), .val (.int vown), .val (.int voth), .val (.int vfl), .val (.int vr1), .val (.int vs1), .val (.int vr2), .val (.int vs2), .val (.int vk), .val (.int vm), .val (.int x12), .val (.int x13), .val (.ref b970), .val (.int x15), .val (.int (vk + (0 : Int32))), .unset, .unset, .unset, .unset, .unset, .unset, .unset, .unset]) rfl k) ?_
                    show OGo p e below s _ _ _ (T993.setTop (mkF m 213 #[.val (.int va), .val (.int vcnt), .val (.int vbits), .val (.int vown), .val (.int voth), .val (.int vfl), .val (.int vr1), .val (.int vs1), .val (.int vr2), .val (.int vs2), .val (.int vk), .val (.int vm), .val (.int x12), .val (.int x13), .val (.ref b970), .val (.int x15), .val (.int (vk + (0 : Int32))), .unset, .unset, .unset, .unset, .unset, .unset, .unset, .unset] []))
                    exact J213 _ (by unfold own_bef; rw [if_pos hc1081])
                  · refine OGo.on (fun t k => XS.ifNo Xh996.here hx rfl (hb hby at_197) rfl ((if0 _ _).trans (feq hc1081).1) k) ?_
                    show OGo p e below s _ _ _ (T993.setTop (mkF m 200 #[.val (.int va), .val (.int vcnt), .val (.int vbits), .val (.int vown), .val (.int voth), .val (.int vfl), .val (.int vr1), .val (.int vs1), .val (.int vr2), .val (.int vs2), .val (.int vk), .val (.int vm), .val (.int x12), .val (.int x13), .val (.ref b970), .val (.int x15), .unset, .unset, .unset, .unset, .unset, .unset, .unset, .unset, .unset] [(.int vk)]))
                    refine OGo.on (fun t k => XS.iload Xh996.here hx rfl (hb hby at_200) rfl k) ?_
                    show OGo p e below s _ _ _ (T993.setTop (mkF m 202 #[.val (.int va), .val (.int vcnt), .val (.int vbits), .val (.int vown), .val (.int voth), .val (.int vfl), .val (.int vr1), .val (.int vs1), .val (.int vr2), .val (.int vs2), .val (.int vk), .val (.int vm), .val (.int x12), .val (.int x13), .val (.ref b970), .val (.int x15), .unset, .unset, .unset, .unset, .unset, .unset, .unset, .unset, .unset] [(.int x15), (.int vk)]))
                    by_cases hc1082 : x15 = (0 : Int32)
                    · refine OGo.on (fun t k => XS.ifYes Xh996.here hx rfl (pc0 := 202) (pc' := 209) rfl (hb hby at_202) rfl ((if0 _ _).trans (teq hc1082).1) (by decide) (by decide) k) ?_
                      show OGo p e below s _ _ _ (T993.setTop (mkF m 209 #[.val (.int va), .val (.int vcnt), .val (.int vbits), .val (.int vown), .val (.int voth), .val (.int vfl), .val (.int vr1), .val (.int vs1), .val (.int vr2), .val (.int vs2), .val (.int vk), .val (.int vm), .val (.int x12), .val (.int x13), .val (.ref b970), .val (.int x15), .unset, .unset, .unset, .unset, .unset, .unset, .unset, .unset, .unset] [(.int vk)]))
                      refine OGo.on (fun t k => XS.iconst Xh996.here hx rfl (hb hby at_209) k) ?_
                      refine OGo.on (fun t k => XS.iadd Xh996.here hx rfl (hb hby at_210) rfl k) ?_
                      refine OGo.on (fun t k => XS.istore Xh996.here hx rfl (hb hby at_211) rfl (l' := #[.val (.int va), .val (.int vcnt), .val (.int vbits), .val (.int vown), .val (.int voth), .val (.int vfl), .val (.int vr1), .val (.int vs1), .val (.int vr2), .val (.int vs2), .val (.int vk), .val (.int vm), .val (.int x12), .val (.int x13), .val (.ref b970), .val (.int x15), .val (.int (vk + (0 : Int32))), .unset, .unset, .unset, .unset, .unset, .unset, .unset, .unset]) rfl k) ?_
                      show OGo p e below s _ _ _ (T993.setTop (mkF m 213 #[.val (.int va), .val (.int vcnt), .val (.int vbits), .val (.int vown), .val (.int voth), .val (.int vfl), .val (.int vr1), .val (.int vs1), .val (.int vr2), .val (.int vs2), .val (.int vk), .val (.int vm), .val (.int x12), .val (.int x13), .val (.ref b970), .val (.int x15), .val (.int (vk + (0 : Int32))), .unset, .unset, .unset, .unset, .unset, .unset, .unset, .unset] []))
                      exact J213 _ (by unfold own_bef; rw [if_neg hc1081, if_pos hc1082])
                    · refine OGo.on (fun t k => XS.ifNo Xh996.here hx rfl (hb hby at_202) rfl ((if0 _ _).trans (feq hc1082).1) k) ?_
                      show OGo p e below s _ _ _ (T993.setTop (mkF m 205 #[.val (.int va), .val (.int vcnt), .val (.int vbits), .val (.int vown), .val (.int voth), .val (.int vfl), .val (.int vr1), .val (.int vs1), .val (.int vr2), .val (.int vs2), .val (.int vk), .val (.int vm), .val (.int x12), .val (.int x13), .val (.ref b970), .val (.int x15), .unset, .unset, .unset, .unset, .unset, .unset, .unset, .unset, .unset] [(.int vk)]))
                      refine OGo.on (fun t k => XS.iconst Xh996.here hx rfl (hb hby at_205) k) ?_
                      refine OGo.on (fun t k => XS.goto Xh996.here hx rfl (pc0 := 206) (pc' := 210) rfl (hb hby at_206) (by decide) (by decide) k) ?_
                      refine OGo.on (fun t k => XS.iadd Xh996.here hx rfl (hb hby at_210) rfl k) ?_
                      refine OGo.on (fun t k => XS.istore Xh996.here hx rfl (hb hby at_211) rfl (l' := #[.val (.int va), .val (.int vcnt), .val (.int vbits), .val (.int vown), .val (.int voth), .val (.int vfl), .val (.int vr1), .val (.int vs1), .val (.int vr2), .val (.int vs2), .val (.int vk), .val (.int vm), .val (.int x12), .val (.int x13), .val (.ref b970), .val (.int x15), .val (.int (vk + (1 : Int32))), .unset, .unset, .unset, .unset, .unset, .unset, .unset, .unset]) rfl k) ?_
                      show OGo p e below s _ _ _ (T993.setTop (mkF m 213 #[.val (.int va), .val (.int vcnt), .val (.int vbits), .val (.int vown), .val (.int voth), .val (.int vfl), .val (.int vr1), .val (.int vs1), .val (.int vr2), .val (.int vs2), .val (.int vk), .val (.int vm), .val (.int x12), .val (.int x13), .val (.ref b970), .val (.int x15), .val (.int (vk + (1 : Int32))), .unset, .unset, .unset, .unset, .unset, .unset, .unset, .unset] []))
                      exact J213 _ (by unfold own_bef; rw [if_neg hc1081, if_neg hc1082])
                refine OGo.on (fun t k => XS.iload Xh996.here hx rfl (hb hby at_172) rfl k) ?_
                refine OGo.on (fun t k => XS.iload Xh996.here hx rfl (hb hby at_174) rfl k) ?_
                show OGo p e below s _ _ _ (T993.setTop (mkF m 176 #[.val (.int va), .val (.int vcnt), .val (.int vbits), .val (.int vown), .val (.int voth), .val (.int vfl), .val (.int vr1), .val (.int vs1), .val (.int vr2), .val (.int vs2), .val (.int vk), .val (.int vm), .val (.int x12), .val (.int x13), .val (.ref b970), .unset, .unset, .unset, .unset, .unset, .unset, .unset, .unset, .unset, .unset] [(.int vr2), (.int vr1)]))
                by_cases hc1083 : vr1 = vr2
                · refine OGo.on (fun t k => XS.icmpNo Xh996.here hx rfl (hb hby at_176) rfl (teq hc1083).2 k) ?_
                  show OGo p e below s _ _ _ (T993.setTop (mkF m 179 #[.val (.int va), .val (.int vcnt), .val (.int vbits), .val (.int vown), .val (.int voth), .val (.int vfl), .val (.int vr1), .val (.int vs1), .val (.int vr2), .val (.int vs2), .val (.int vk), .val (.int vm), .val (.int x12), .val (.int x13), .val (.ref b970), .unset, .unset, .unset, .unset, .unset, .unset, .unset, .unset, .unset, .unset] []))
                  refine OGo.on (fun t k => XS.iload Xh996.here hx rfl (hb hby at_179) rfl k) ?_
                  refine OGo.on (fun t k => XS.iload Xh996.here hx rfl (hb hby at_181) rfl k) ?_
                  show OGo p e below s _ _ _ (T993.setTop (mkF m 183 #[.val (.int va), .val (.int vcnt), .val (.int vbits), .val (.int vown), .val (.int voth), .val (.int vfl), .val (.int vr1), .val (.int vs1), .val (.int vr2), .val (.int vs2), .val (.int vk), .val (.int vm), .val (.int x12), .val (.int x13), .val (.ref b970), .unset, .unset, .unset, .unset, .unset, .unset, .unset, .unset, .unset, .unset] [(.int vs2), (.int vs1)]))
                  by_cases hc1084 : vs1 = vs2
                  · refine OGo.on (fun t k => XS.icmpNo Xh996.here hx rfl (hb hby at_183) rfl (teq hc1084).2 k) ?_
                    show OGo p e below s _ _ _ (T993.setTop (mkF m 186 #[.val (.int va), .val (.int vcnt), .val (.int vbits), .val (.int vown), .val (.int voth), .val (.int vfl), .val (.int vr1), .val (.int vs1), .val (.int vr2), .val (.int vs2), .val (.int vk), .val (.int vm), .val (.int x12), .val (.int x13), .val (.ref b970), .unset, .unset, .unset, .unset, .unset, .unset, .unset, .unset, .unset, .unset] []))
                    refine OGo.on (fun t k => XS.iconst Xh996.here hx rfl (hb hby at_186) k) ?_
                    refine OGo.on (fun t k => XS.goto Xh996.here hx rfl (pc0 := 187) (pc' := 191) rfl (hb hby at_187) (by decide) (by decide) k) ?_
                    refine OGo.on (fun t k => XS.istore Xh996.here hx rfl (hb hby at_191) rfl (l' := #[.val (.int va), .val (.int vcnt), .val (.int vbits), .val (.int vown), .val (.int voth), .val (.int vfl), .val (.int vr1), .val (.int vs1), .val (.int vr2), .val (.int vs2), .val (.int vk), .val (.int vm), .val (.int x12), .val (.int x13), .val (.ref b970), .val (.int (1 : Int32)), .unset, .unset, .unset, .unset, .unset, .unset, .unset, .unset, .unset]) rfl k) ?_
                    show OGo p e below s _ _ _ (T993.setTop (mkF m 193 #[.val (.int va), .val (.int vcnt), .val (.int vbits), .val (.int vown), .val (.int voth), .val (.int vfl), .val (.int vr1), .val (.int vs1), .val (.int vr2), .val (.int vs2), .val (.int vk), .val (.int vm), .val (.int x12), .val (.int x13), .val (.ref b970), .val (.int (1 : Int32)), .unset, .unset, .unset, .unset, .unset, .unset, .unset, .unset, .unset] []))
                    exact J193 _ ⟨fun _ => ⟨hc1083, hc1084⟩, fun _ => by decide⟩
                  · refine OGo.on (fun t k => XS.icmpYes Xh996.here hx rfl (pc0 := 183) (pc' := 190) rfl (hb hby at_183) rfl (feq hc1084).2 (by decide) (by decide) k) ?_
                    show OGo p e below s _ _ _ (T993.setTop (mkF m 190 #[.val (.int va), .val (.int vcnt), .val (.int vbits), .val (.int vown), .val (.int voth), .val (.int vfl), .val (.int vr1), .val (.int vs1), .val (.int vr2), .val (.int vs2), .val (.int vk), .val (.int vm), .val (.int x12), .val (.int x13), .val (.ref b970), .unset, .unset, .unset, .unset, .unset, .unset, .unset, .unset, .unset, .unset] []))
                    refine OGo.on (fun t k => XS.iconst Xh996.here hx rfl (hb hby at_190) k) ?_
                    refine OGo.on (fun t k => XS.istore Xh996.here hx rfl (hb hby at_191) rfl (l' := #[.val (.int va), .val (.int vcnt), .val (.int vbits), .val (.int vown), .val (.int voth), .val (.int vfl), .val (.int vr1), .val (.int vs1), .val (.int vr2), .val (.int vs2), .val (.int vk), .val (.int vm), .val (.int x12), .val (.int x13), .val (.ref b970), .val (.int (0 : Int32)), .unset, .unset, .unset, .unset, .unset, .unset, .unset, .unset, .unset]) rfl k) ?_
                    show OGo p e below s _ _ _ (T993.setTop (mkF m 193 #[.val (.int va), .val (.int vcnt), .val (.int vbits), .val (.int vown), .val (.int voth), .val (.int vfl), .val (.int vr1), .val (.int vs1), .val (.int vr2), .val (.int vs2), .val (.int vk), .val (.int vm), .val (.int x12), .val (.int x13), .val (.ref b970), .val (.int (0 : Int32)), .unset, .unset, .unset, .unset, .unset, .unset, .unset, .unset, .unset] []))
                    exact J193 _ ⟨fun q => absurd rfl q, fun q => absurd q.2 hc1084⟩
                · refine OGo.on (fun t k => XS.icmpYes Xh996.here hx rfl (pc0 := 176) (pc' := 190) rfl (hb hby at_176) rfl (feq hc1083).2 (by decide) (by decide) k) ?_
                  show OGo p e below s _ _ _ (T993.setTop (mkF m 190 #[.val (.int va), .val (.int vcnt), .val (.int vbits), .val (.int vown), .val (.int voth), .val (.int vfl), .val (.int vr1), .val (.int vs1), .val (.int vr2), .val (.int vs2), .val (.int vk), .val (.int vm), .val (.int x12), .val (.int x13), .val (.ref b970), .unset, .unset, .unset, .unset, .unset, .unset, .unset, .unset, .unset, .unset] []))
                  refine OGo.on (fun t k => XS.iconst Xh996.here hx rfl (hb hby at_190) k) ?_
                  refine OGo.on (fun t k => XS.istore Xh996.here hx rfl (hb hby at_191) rfl (l' := #[.val (.int va), .val (.int vcnt), .val (.int vbits), .val (.int vown), .val (.int voth), .val (.int vfl), .val (.int vr1), .val (.int vs1), .val (.int vr2), .val (.int vs2), .val (.int vk), .val (.int vm), .val (.int x12), .val (.int x13), .val (.ref b970), .val (.int (0 : Int32)), .unset, .unset, .unset, .unset, .unset, .unset, .unset, .unset, .unset]) rfl k) ?_
                  show OGo p e below s _ _ _ (T993.setTop (mkF m 193 #[.val (.int va), .val (.int vcnt), .val (.int vbits), .val (.int vown), .val (.int voth), .val (.int vfl), .val (.int vr1), .val (.int vs1), .val (.int vr2), .val (.int vs2), .val (.int vk), .val (.int vm), .val (.int x12), .val (.int x13), .val (.ref b970), .val (.int (0 : Int32)), .unset, .unset, .unset, .unset, .unset, .unset, .unset, .unset, .unset] []))
                  exact J193 _ ⟨fun q => absurd rfl q, fun q => absurd q.1 hc1083⟩
              refine OGo.on (fun t k => XS.iloadN Xh992.here hx rfl (hb hby at_158) rfl k) ?_
              refine OGo.on (fun t k => XS.iconst Xh992.here hx rfl (hb hby at_159) k) ?_
              refine OGo.on (fun t k => XS.ishr Xh992.here hx rfl (hb hby at_160) rfl k) ?_
              refine OGo.on (fun t k => XS.iconst Xh992.here hx rfl (hb hby at_161) k) ?_
              show OGo p e below s _ _ _ (T989.setTop (mkF m 162 #[.val (.int va), .val (.int vcnt), .val (.int vbits), .val (.int vown), .val (.int voth), .val (.int vfl), .val (.int vr1), .val (.int vs1), .val (.int vr2), .val (.int vs2), .val (.int vk), .val (.int vm), .val (.int x12), .val (.int x13), .val (.ref b970), .unset, .unset, .unset, .unset, .unset, .unset, .unset, .unset, .unset, .unset] [(.int (1 : Int32)), (.int (vbits >>> ((5 : Int32) &&& 31))), (.int (5 : Int32)), (.ref b970)]))
              refine OGo.on (fun t k => XS.iand Xh992.here hx rfl (hb hby at_162) rfl k) ?_
              show OGo p e below s _ _ _ (T989.setTop (mkF m 163 #[.val (.int va), .val (.int vcnt), .val (.int vbits), .val (.int vown), .val (.int voth), .val (.int vfl), .val (.int vr1), .val (.int vs1), .val (.int vr2), .val (.int vs2), .val (.int vk), .val (.int vm), .val (.int x12), .val (.int x13), .val (.ref b970), .unset, .unset, .unset, .unset, .unset, .unset, .unset, .unset, .unset, .unset] [(.int ((vbits >>> ((5 : Int32) &&& 31)) &&& (1 : Int32))), (.int (5 : Int32)), (.ref b970)]))
              by_cases hc1085 : ((vbits >>> ((5 : Int32) &&& 31)) &&& (1 : Int32)) = (0 : Int32)
              · refine OGo.on (fun t k => XS.ifYes Xh992.here hx rfl (pc0 := 163) (pc' := 170) rfl (hb hby at_163) rfl ((if0 _ _).trans (teq hc1085).1) (by decide) (by decide) k) ?_
                show OGo p e below s _ _ _ (T989.setTop (mkF m 170 #[.val (.int va), .val (.int vcnt), .val (.int vbits), .val (.int vown), .val (.int voth), .val (.int vfl), .val (.int vr1), .val (.int vs1), .val (.int vr2), .val (.int vs2), .val (.int vk), .val (.int vm), .val (.int x12), .val (.int x13), .val (.ref b970), .unset, .unset, .unset, .unset, .unset, .unset, .unset, .unset, .unset, .unset] [(.int (5 : Int32)), (.ref b970)]))
                refine OGo.on (fun t k => XS.iconst Xh992.here hx rfl (hb hby at_170) k) ?_
                show OGo p e below s _ _ _ (T989.setTop (mkF m 171 #[.val (.int va), .val (.int vcnt), .val (.int vbits), .val (.int vown), .val (.int voth), .val (.int vfl), .val (.int vr1), .val (.int vs1), .val (.int vr2), .val (.int vs2), .val (.int vk), .val (.int vm), .val (.int x12), .val (.int x13), .val (.ref b970), .unset, .unset, .unset, .unset, .unset, .unset, .unset, .unset, .unset, .unset] [(.int (0 : Int32)), (.int (5 : Int32)), (.ref b970)]))
                exact J171 _ (by unfold own_bitp; rw [if_pos hc1085])
              · refine OGo.on (fun t k => XS.ifNo Xh992.here hx rfl (hb hby at_163) rfl ((if0 _ _).trans (feq hc1085).1) k) ?_
                show OGo p e below s _ _ _ (T989.setTop (mkF m 166 #[.val (.int va), .val (.int vcnt), .val (.int vbits), .val (.int vown), .val (.int voth), .val (.int vfl), .val (.int vr1), .val (.int vs1), .val (.int vr2), .val (.int vs2), .val (.int vk), .val (.int vm), .val (.int x12), .val (.int x13), .val (.ref b970), .unset, .unset, .unset, .unset, .unset, .unset, .unset, .unset, .unset, .unset] [(.int (5 : Int32)), (.ref b970)]))
                refine OGo.on (fun t k => XS.iconst Xh992.here hx rfl (hb hby at_166) k) ?_
                refine OGo.on (fun t k => XS.goto Xh992.here hx rfl (pc0 := 167) (pc' := 171) rfl (hb hby at_167) (by decide) (by decide) k) ?_
                show OGo p e below s _ _ _ (T989.setTop (mkF m 171 #[.val (.int va), .val (.int vcnt), .val (.int vbits), .val (.int vown), .val (.int voth), .val (.int vfl), .val (.int vr1), .val (.int vs1), .val (.int vr2), .val (.int vs2), .val (.int vk), .val (.int vm), .val (.int x12), .val (.int x13), .val (.ref b970), .unset, .unset, .unset, .unset, .unset, .unset, .unset, .unset, .unset, .unset] [(.int (1 : Int32)), (.int (5 : Int32)), (.ref b970)]))
                exact J171 _ (by unfold own_bitp; rw [if_neg hc1085])
            refine OGo.on (fun t k => XS.iloadN Xh988.here hx rfl (hb hby at_141) rfl k) ?_
            refine OGo.on (fun t k => XS.iconst Xh988.here hx rfl (hb hby at_142) k) ?_
            refine OGo.on (fun t k => XS.ishr Xh988.here hx rfl (hb hby at_143) rfl k) ?_
            refine OGo.on (fun t k => XS.iconst Xh988.here hx rfl (hb hby at_144) k) ?_
            show OGo p e below s _ _ _ (T985.setTop (mkF m 145 #[.val (.int va), .val (.int vcnt), .val (.int vbits), .val (.int vown), .val (.int voth), .val (.int vfl), .val (.int vr1), .val (.int vs1), .val (.int vr2), .val (.int vs2), .val (.int vk), .val (.int vm), .val (.int x12), .val (.int x13), .val (.ref b970), .unset, .unset, .unset, .unset, .unset, .unset, .unset, .unset, .unset, .unset] [(.int (1 : Int32)), (.int (vbits >>> ((4 : Int32) &&& 31))), (.int (4 : Int32)), (.ref b970)]))
            refine OGo.on (fun t k => XS.iand Xh988.here hx rfl (hb hby at_145) rfl k) ?_
            show OGo p e below s _ _ _ (T985.setTop (mkF m 146 #[.val (.int va), .val (.int vcnt), .val (.int vbits), .val (.int vown), .val (.int voth), .val (.int vfl), .val (.int vr1), .val (.int vs1), .val (.int vr2), .val (.int vs2), .val (.int vk), .val (.int vm), .val (.int x12), .val (.int x13), .val (.ref b970), .unset, .unset, .unset, .unset, .unset, .unset, .unset, .unset, .unset, .unset] [(.int ((vbits >>> ((4 : Int32) &&& 31)) &&& (1 : Int32))), (.int (4 : Int32)), (.ref b970)]))
            by_cases hc1086 : ((vbits >>> ((4 : Int32) &&& 31)) &&& (1 : Int32)) = (0 : Int32)
            · refine OGo.on (fun t k => XS.ifYes Xh988.here hx rfl (pc0 := 146) (pc' := 153) rfl (hb hby at_146) rfl ((if0 _ _).trans (teq hc1086).1) (by decide) (by decide) k) ?_
              show OGo p e below s _ _ _ (T985.setTop (mkF m 153 #[.val (.int va), .val (.int vcnt), .val (.int vbits), .val (.int vown), .val (.int voth), .val (.int vfl), .val (.int vr1), .val (.int vs1), .val (.int vr2), .val (.int vs2), .val (.int vk), .val (.int vm), .val (.int x12), .val (.int x13), .val (.ref b970), .unset, .unset, .unset, .unset, .unset, .unset, .unset, .unset, .unset, .unset] [(.int (4 : Int32)), (.ref b970)]))
              refine OGo.on (fun t k => XS.iconst Xh988.here hx rfl (hb hby at_153) k) ?_
              show OGo p e below s _ _ _ (T985.setTop (mkF m 154 #[.val (.int va), .val (.int vcnt), .val (.int vbits), .val (.int vown), .val (.int voth), .val (.int vfl), .val (.int vr1), .val (.int vs1), .val (.int vr2), .val (.int vs2), .val (.int vk), .val (.int vm), .val (.int x12), .val (.int x13), .val (.ref b970), .unset, .unset, .unset, .unset, .unset, .unset, .unset, .unset, .unset, .unset] [(.int (0 : Int32)), (.int (4 : Int32)), (.ref b970)]))
              exact J154 _ (by unfold own_bitp; rw [if_pos hc1086])
            · refine OGo.on (fun t k => XS.ifNo Xh988.here hx rfl (hb hby at_146) rfl ((if0 _ _).trans (feq hc1086).1) k) ?_
              show OGo p e below s _ _ _ (T985.setTop (mkF m 149 #[.val (.int va), .val (.int vcnt), .val (.int vbits), .val (.int vown), .val (.int voth), .val (.int vfl), .val (.int vr1), .val (.int vs1), .val (.int vr2), .val (.int vs2), .val (.int vk), .val (.int vm), .val (.int x12), .val (.int x13), .val (.ref b970), .unset, .unset, .unset, .unset, .unset, .unset, .unset, .unset, .unset, .unset] [(.int (4 : Int32)), (.ref b970)]))
              refine OGo.on (fun t k => XS.iconst Xh988.here hx rfl (hb hby at_149) k) ?_
              refine OGo.on (fun t k => XS.goto Xh988.here hx rfl (pc0 := 150) (pc' := 154) rfl (hb hby at_150) (by decide) (by decide) k) ?_
              show OGo p e below s _ _ _ (T985.setTop (mkF m 154 #[.val (.int va), .val (.int vcnt), .val (.int vbits), .val (.int vown), .val (.int voth), .val (.int vfl), .val (.int vr1), .val (.int vs1), .val (.int vr2), .val (.int vs2), .val (.int vk), .val (.int vm), .val (.int x12), .val (.int x13), .val (.ref b970), .unset, .unset, .unset, .unset, .unset, .unset, .unset, .unset, .unset, .unset] [(.int (1 : Int32)), (.int (4 : Int32)), (.ref b970)]))
              exact J154 _ (by unfold own_bitp; rw [if_neg hc1086])
          refine OGo.on (fun t k => XS.iloadN Xh984.here hx rfl (hb hby at_124) rfl k) ?_
          refine OGo.on (fun t k => XS.iconst Xh984.here hx rfl (hb hby at_125) k) ?_
          refine OGo.on (fun t k => XS.ishr Xh984.here hx rfl (hb hby at_126) rfl k) ?_
          refine OGo.on (fun t k => XS.iconst Xh984.here hx rfl (hb hby at_127) k) ?_
          show OGo p e below s _ _ _ (T981.setTop (mkF m 128 #[.val (.int va), .val (.int vcnt), .val (.int vbits), .val (.int vown), .val (.int voth), .val (.int vfl), .val (.int vr1), .val (.int vs1), .val (.int vr2), .val (.int vs2), .val (.int vk), .val (.int vm), .val (.int x12), .val (.int x13), .val (.ref b970), .unset, .unset, .unset, .unset, .unset, .unset, .unset, .unset, .unset, .unset] [(.int (1 : Int32)), (.int (vbits >>> ((3 : Int32) &&& 31))), (.int (3 : Int32)), (.ref b970)]))
          refine OGo.on (fun t k => XS.iand Xh984.here hx rfl (hb hby at_128) rfl k) ?_
          show OGo p e below s _ _ _ (T981.setTop (mkF m 129 #[.val (.int va), .val (.int vcnt), .val (.int vbits), .val (.int vown), .val (.int voth), .val (.int vfl), .val (.int vr1), .val (.int vs1), .val (.int vr2), .val (.int vs2), .val (.int vk), .val (.int vm), .val (.int x12), .val (.int x13), .val (.ref b970), .unset, .unset, .unset, .unset, .unset, .unset, .unset, .unset, .unset, .unset] [(.int ((vbits >>> ((3 : Int32) &&& 31)) &&& (1 : Int32))), (.int (3 : Int32)), (.ref b970)]))
          by_cases hc1087 : ((vbits >>> ((3 : Int32) &&& 31)) &&& (1 : Int32)) = (0 : Int32)
          · refine OGo.on (fun t k => XS.ifYes Xh984.here hx rfl (pc0 := 129) (pc' := 136) rfl (hb hby at_129) rfl ((if0 _ _).trans (teq hc1087).1) (by decide) (by decide) k) ?_
            show OGo p e below s _ _ _ (T981.setTop (mkF m 136 #[.val (.int va), .val (.int vcnt), .val (.int vbits), .val (.int vown), .val (.int voth), .val (.int vfl), .val (.int vr1), .val (.int vs1), .val (.int vr2), .val (.int vs2), .val (.int vk), .val (.int vm), .val (.int x12), .val (.int x13), .val (.ref b970), .unset, .unset, .unset, .unset, .unset, .unset, .unset, .unset, .unset, .unset] [(.int (3 : Int32)), (.ref b970)]))
            refine OGo.on (fun t k => XS.iconst Xh984.here hx rfl (hb hby at_136) k) ?_
            show OGo p e below s _ _ _ (T981.setTop (mkF m 137 #[.val (.int va), .val (.int vcnt), .val (.int vbits), .val (.int vown), .val (.int voth), .val (.int vfl), .val (.int vr1), .val (.int vs1), .val (.int vr2), .val (.int vs2), .val (.int vk), .val (.int vm), .val (.int x12), .val (.int x13), .val (.ref b970), .unset, .unset, .unset, .unset, .unset, .unset, .unset, .unset, .unset, .unset] [(.int (0 : Int32)), (.int (3 : Int32)), (.ref b970)]))
            exact J137 _ (by unfold own_bitp; rw [if_pos hc1087])
          · refine OGo.on (fun t k => XS.ifNo Xh984.here hx rfl (hb hby at_129) rfl ((if0 _ _).trans (feq hc1087).1) k) ?_
            show OGo p e below s _ _ _ (T981.setTop (mkF m 132 #[.val (.int va), .val (.int vcnt), .val (.int vbits), .val (.int vown), .val (.int voth), .val (.int vfl), .val (.int vr1), .val (.int vs1), .val (.int vr2), .val (.int vs2), .val (.int vk), .val (.int vm), .val (.int x12), .val (.int x13), .val (.ref b970), .unset, .unset, .unset, .unset, .unset, .unset, .unset, .unset, .unset, .unset] [(.int (3 : Int32)), (.ref b970)]))
            refine OGo.on (fun t k => XS.iconst Xh984.here hx rfl (hb hby at_132) k) ?_
            refine OGo.on (fun t k => XS.goto Xh984.here hx rfl (pc0 := 133) (pc' := 137) rfl (hb hby at_133) (by decide) (by decide) k) ?_
            show OGo p e below s _ _ _ (T981.setTop (mkF m 137 #[.val (.int va), .val (.int vcnt), .val (.int vbits), .val (.int vown), .val (.int voth), .val (.int vfl), .val (.int vr1), .val (.int vs1), .val (.int vr2), .val (.int vs2), .val (.int vk), .val (.int vm), .val (.int x12), .val (.int x13), .val (.ref b970), .unset, .unset, .unset, .unset, .unset, .unset, .unset, .unset, .unset, .unset] [(.int (1 : Int32)), (.int (3 : Int32)), (.ref b970)]))
            exact J137 _ (by unfold own_bitp; rw [if_neg hc1087])
        refine OGo.on (fun t k => XS.iloadN Xh980.here hx rfl (hb hby at_107) rfl k) ?_
        refine OGo.on (fun t k => XS.iconst Xh980.here hx rfl (hb hby at_108) k) ?_
        refine OGo.on (fun t k => XS.ishr Xh980.here hx rfl (hb hby at_109) rfl k) ?_
        refine OGo.on (fun t k => XS.iconst Xh980.here hx rfl (hb hby at_110) k) ?_
        show OGo p e below s _ _ _ (T977.setTop (mkF m 111 #[.val (.int va), .val (.int vcnt), .val (.int vbits), .val (.int vown), .val (.int voth), .val (.int vfl), .val (.int vr1), .val (.int vs1), .val (.int vr2), .val (.int vs2), .val (.int vk), .val (.int vm), .val (.int x12), .val (.int x13), .val (.ref b970), .unset, .unset, .unset, .unset, .unset, .unset, .unset, .unset, .unset, .unset] [(.int (1 : Int32)), (.int (vbits >>> ((2 : Int32) &&& 31))), (.int (2 : Int32)), (.ref b970)]))
        refine OGo.on (fun t k => XS.iand Xh980.here hx rfl (hb hby at_111) rfl k) ?_
        show OGo p e below s _ _ _ (T977.setTop (mkF m 112 #[.val (.int va), .val (.int vcnt), .val (.int vbits), .val (.int vown), .val (.int voth), .val (.int vfl), .val (.int vr1), .val (.int vs1), .val (.int vr2), .val (.int vs2), .val (.int vk), .val (.int vm), .val (.int x12), .val (.int x13), .val (.ref b970), .unset, .unset, .unset, .unset, .unset, .unset, .unset, .unset, .unset, .unset] [(.int ((vbits >>> ((2 : Int32) &&& 31)) &&& (1 : Int32))), (.int (2 : Int32)), (.ref b970)]))
        by_cases hc1088 : ((vbits >>> ((2 : Int32) &&& 31)) &&& (1 : Int32)) = (0 : Int32)
        · refine OGo.on (fun t k => XS.ifYes Xh980.here hx rfl (pc0 := 112) (pc' := 119) rfl (hb hby at_112) rfl ((if0 _ _).trans (teq hc1088).1) (by decide) (by decide) k) ?_
          show OGo p e below s _ _ _ (T977.setTop (mkF m 119 #[.val (.int va), .val (.int vcnt), .val (.int vbits), .val (.int vown), .val (.int voth), .val (.int vfl), .val (.int vr1), .val (.int vs1), .val (.int vr2), .val (.int vs2), .val (.int vk), .val (.int vm), .val (.int x12), .val (.int x13), .val (.ref b970), .unset, .unset, .unset, .unset, .unset, .unset, .unset, .unset, .unset, .unset] [(.int (2 : Int32)), (.ref b970)]))
          refine OGo.on (fun t k => XS.iconst Xh980.here hx rfl (hb hby at_119) k) ?_
          show OGo p e below s _ _ _ (T977.setTop (mkF m 120 #[.val (.int va), .val (.int vcnt), .val (.int vbits), .val (.int vown), .val (.int voth), .val (.int vfl), .val (.int vr1), .val (.int vs1), .val (.int vr2), .val (.int vs2), .val (.int vk), .val (.int vm), .val (.int x12), .val (.int x13), .val (.ref b970), .unset, .unset, .unset, .unset, .unset, .unset, .unset, .unset, .unset, .unset] [(.int (0 : Int32)), (.int (2 : Int32)), (.ref b970)]))
          exact J120 _ (by unfold own_bitp; rw [if_pos hc1088])
        · refine OGo.on (fun t k => XS.ifNo Xh980.here hx rfl (hb hby at_112) rfl ((if0 _ _).trans (feq hc1088).1) k) ?_
          show OGo p e below s _ _ _ (T977.setTop (mkF m 115 #[.val (.int va), .val (.int vcnt), .val (.int vbits), .val (.int vown), .val (.int voth), .val (.int vfl), .val (.int vr1), .val (.int vs1), .val (.int vr2), .val (.int vs2), .val (.int vk), .val (.int vm), .val (.int x12), .val (.int x13), .val (.ref b970), .unset, .unset, .unset, .unset, .unset, .unset, .unset, .unset, .unset, .unset] [(.int (2 : Int32)), (.ref b970)]))
          refine OGo.on (fun t k => XS.iconst Xh980.here hx rfl (hb hby at_115) k) ?_
          refine OGo.on (fun t k => XS.goto Xh980.here hx rfl (pc0 := 116) (pc' := 120) rfl (hb hby at_116) (by decide) (by decide) k) ?_
          show OGo p e below s _ _ _ (T977.setTop (mkF m 120 #[.val (.int va), .val (.int vcnt), .val (.int vbits), .val (.int vown), .val (.int voth), .val (.int vfl), .val (.int vr1), .val (.int vs1), .val (.int vr2), .val (.int vs2), .val (.int vk), .val (.int vm), .val (.int x12), .val (.int x13), .val (.ref b970), .unset, .unset, .unset, .unset, .unset, .unset, .unset, .unset, .unset, .unset] [(.int (1 : Int32)), (.int (2 : Int32)), (.ref b970)]))
          exact J120 _ (by unfold own_bitp; rw [if_neg hc1088])
      refine OGo.on (fun t k => XS.iloadN Xh976.here hx rfl (hb hby at_90) rfl k) ?_
      refine OGo.on (fun t k => XS.iconst Xh976.here hx rfl (hb hby at_91) k) ?_
      refine OGo.on (fun t k => XS.ishr Xh976.here hx rfl (hb hby at_92) rfl k) ?_
      refine OGo.on (fun t k => XS.iconst Xh976.here hx rfl (hb hby at_93) k) ?_
      show OGo p e below s _ _ _ (T973.setTop (mkF m 94 #[.val (.int va), .val (.int vcnt), .val (.int vbits), .val (.int vown), .val (.int voth), .val (.int vfl), .val (.int vr1), .val (.int vs1), .val (.int vr2), .val (.int vs2), .val (.int vk), .val (.int vm), .val (.int x12), .val (.int x13), .val (.ref b970), .unset, .unset, .unset, .unset, .unset, .unset, .unset, .unset, .unset, .unset] [(.int (1 : Int32)), (.int (vbits >>> ((1 : Int32) &&& 31))), (.int (1 : Int32)), (.ref b970)]))
      refine OGo.on (fun t k => XS.iand Xh976.here hx rfl (hb hby at_94) rfl k) ?_
      show OGo p e below s _ _ _ (T973.setTop (mkF m 95 #[.val (.int va), .val (.int vcnt), .val (.int vbits), .val (.int vown), .val (.int voth), .val (.int vfl), .val (.int vr1), .val (.int vs1), .val (.int vr2), .val (.int vs2), .val (.int vk), .val (.int vm), .val (.int x12), .val (.int x13), .val (.ref b970), .unset, .unset, .unset, .unset, .unset, .unset, .unset, .unset, .unset, .unset] [(.int ((vbits >>> ((1 : Int32) &&& 31)) &&& (1 : Int32))), (.int (1 : Int32)), (.ref b970)]))
      by_cases hc1089 : ((vbits >>> ((1 : Int32) &&& 31)) &&& (1 : Int32)) = (0 : Int32)
      · refine OGo.on (fun t k => XS.ifYes Xh976.here hx rfl (pc0 := 95) (pc' := 102) rfl (hb hby at_95) rfl ((if0 _ _).trans (teq hc1089).1) (by decide) (by decide) k) ?_
        show OGo p e below s _ _ _ (T973.setTop (mkF m 102 #[.val (.int va), .val (.int vcnt), .val (.int vbits), .val (.int vown), .val (.int voth), .val (.int vfl), .val (.int vr1), .val (.int vs1), .val (.int vr2), .val (.int vs2), .val (.int vk), .val (.int vm), .val (.int x12), .val (.int x13), .val (.ref b970), .unset, .unset, .unset, .unset, .unset, .unset, .unset, .unset, .unset, .unset] [(.int (1 : Int32)), (.ref b970)]))
        refine OGo.on (fun t k => XS.iconst Xh976.here hx rfl (hb hby at_102) k) ?_
        show OGo p e below s _ _ _ (T973.setTop (mkF m 103 #[.val (.int va), .val (.int vcnt), .val (.int vbits), .val (.int vown), .val (.int voth), .val (.int vfl), .val (.int vr1), .val (.int vs1), .val (.int vr2), .val (.int vs2), .val (.int vk), .val (.int vm), .val (.int x12), .val (.int x13), .val (.ref b970), .unset, .unset, .unset, .unset, .unset, .unset, .unset, .unset, .unset, .unset] [(.int (0 : Int32)), (.int (1 : Int32)), (.ref b970)]))
        exact J103 _ (by unfold own_bitp; rw [if_pos hc1089])
      · refine OGo.on (fun t k => XS.ifNo Xh976.here hx rfl (hb hby at_95) rfl ((if0 _ _).trans (feq hc1089).1) k) ?_
        show OGo p e below s _ _ _ (T973.setTop (mkF m 98 #[.val (.int va), .val (.int vcnt), .val (.int vbits), .val (.int vown), .val (.int voth), .val (.int vfl), .val (.int vr1), .val (.int vs1), .val (.int vr2), .val (.int vs2), .val (.int vk), .val (.int vm), .val (.int x12), .val (.int x13), .val (.ref b970), .unset, .unset, .unset, .unset, .unset, .unset, .unset, .unset, .unset, .unset] [(.int (1 : Int32)), (.ref b970)]))
        refine OGo.on (fun t k => XS.iconst Xh976.here hx rfl (hb hby at_98) k) ?_
        refine OGo.on (fun t k => XS.goto Xh976.here hx rfl (pc0 := 99) (pc' := 103) rfl (hb hby at_99) (by decide) (by decide) k) ?_
        show OGo p e below s _ _ _ (T973.setTop (mkF m 103 #[.val (.int va), .val (.int vcnt), .val (.int vbits), .val (.int vown), .val (.int voth), .val (.int vfl), .val (.int vr1), .val (.int vs1), .val (.int vr2), .val (.int vs2), .val (.int vk), .val (.int vm), .val (.int x12), .val (.int x13), .val (.ref b970), .unset, .unset, .unset, .unset, .unset, .unset, .unset, .unset, .unset, .unset] [(.int (1 : Int32)), (.int (1 : Int32)), (.ref b970)]))
        exact J103 _ (by unfold own_bitp; rw [if_neg hc1089])
    refine OGo.on (fun t k => XS.iloadN X970.here hx rfl (hb hby at_75) rfl k) ?_
    refine OGo.on (fun t k => XS.iconst X970.here hx rfl (hb hby at_76) k) ?_
    refine OGo.on (fun t k => XS.iand X970.here hx rfl (hb hby at_77) rfl k) ?_
    show OGo p e below s _ _ _ (T970.setTop (mkF m 78 #[.val (.int va), .val (.int vcnt), .val (.int vbits), .val (.int vown), .val (.int voth), .val (.int vfl), .val (.int vr1), .val (.int vs1), .val (.int vr2), .val (.int vs2), .val (.int vk), .val (.int vm), .val (.int x12), .val (.int x13), .val (.ref b970), .unset, .unset, .unset, .unset, .unset, .unset, .unset, .unset, .unset, .unset] [(.int (vbits &&& (1 : Int32))), (.int (0 : Int32)), (.ref b970)]))
    by_cases hc1090 : (vbits &&& (1 : Int32)) = (0 : Int32)
    · refine OGo.on (fun t k => XS.ifYes X970.here hx rfl (pc0 := 78) (pc' := 85) rfl (hb hby at_78) rfl ((if0 _ _).trans (teq hc1090).1) (by decide) (by decide) k) ?_
      show OGo p e below s _ _ _ (T970.setTop (mkF m 85 #[.val (.int va), .val (.int vcnt), .val (.int vbits), .val (.int vown), .val (.int voth), .val (.int vfl), .val (.int vr1), .val (.int vs1), .val (.int vr2), .val (.int vs2), .val (.int vk), .val (.int vm), .val (.int x12), .val (.int x13), .val (.ref b970), .unset, .unset, .unset, .unset, .unset, .unset, .unset, .unset, .unset, .unset] [(.int (0 : Int32)), (.ref b970)]))
      refine OGo.on (fun t k => XS.iconst X970.here hx rfl (hb hby at_85) k) ?_
      show OGo p e below s _ _ _ (T970.setTop (mkF m 86 #[.val (.int va), .val (.int vcnt), .val (.int vbits), .val (.int vown), .val (.int voth), .val (.int vfl), .val (.int vr1), .val (.int vs1), .val (.int vr2), .val (.int vs2), .val (.int vk), .val (.int vm), .val (.int x12), .val (.int x13), .val (.ref b970), .unset, .unset, .unset, .unset, .unset, .unset, .unset, .unset, .unset, .unset] [(.int (0 : Int32)), (.int (0 : Int32)), (.ref b970)]))
      exact J86 _ (by rw [own_bit0, if_pos hc1090])
    · refine OGo.on (fun t k => XS.ifNo X970.here hx rfl (hb hby at_78) rfl ((if0 _ _).trans (feq hc1090).1) k) ?_
      show OGo p e below s _ _ _ (T970.setTop (mkF m 81 #[.val (.int va), .val (.int vcnt), .val (.int vbits), .val (.int vown), .val (.int voth), .val (.int vfl), .val (.int vr1), .val (.int vs1), .val (.int vr2), .val (.int vs2), .val (.int vk), .val (.int vm), .val (.int x12), .val (.int x13), .val (.ref b970), .unset, .unset, .unset, .unset, .unset, .unset, .unset, .unset, .unset, .unset] [(.int (0 : Int32)), (.ref b970)]))
      refine OGo.on (fun t k => XS.iconst X970.here hx rfl (hb hby at_81) k) ?_
      refine OGo.on (fun t k => XS.goto X970.here hx rfl (pc0 := 82) (pc' := 86) rfl (hb hby at_82) (by decide) (by decide) k) ?_
      show OGo p e below s _ _ _ (T970.setTop (mkF m 86 #[.val (.int va), .val (.int vcnt), .val (.int vbits), .val (.int vown), .val (.int voth), .val (.int vfl), .val (.int vr1), .val (.int vs1), .val (.int vr2), .val (.int vs2), .val (.int vk), .val (.int vm), .val (.int x12), .val (.int x13), .val (.ref b970), .unset, .unset, .unset, .unset, .unset, .unset, .unset, .unset, .unset, .unset] [(.int (1 : Int32)), (.int (0 : Int32)), (.ref b970)]))
      exact J86 _ (by rw [own_bit0, if_neg hc1090])
  have J52 : ∀ (x12 : Int32), OGo p e below s (fun v h L => v = some (.int 1) ∧ Fr n0 L) 24 192 (s₁.setTop (mkF m 52 #[.val (.int va), .val (.int vcnt), .val (.int vbits), .val (.int vown), .val (.int voth), .val (.int vfl), .val (.int vr1), .val (.int vs1), .val (.int vr2), .val (.int vs2), .val (.int vk), .val (.int vm), .val (.int x12), .unset, .unset, .unset, .unset, .unset, .unset, .unset, .unset, .unset, .unset, .unset, .unset] [])) := by
    intro x12
    show OGo p e below s _ _ _ (s₁.setTop (mkF m 52 #[.val (.int va), .val (.int vcnt), .val (.int vbits), .val (.int vown), .val (.int voth), .val (.int vfl), .val (.int vr1), .val (.int vs1), .val (.int vr2), .val (.int vs2), .val (.int vk), .val (.int vm), .val (.int x12), .unset, .unset, .unset, .unset, .unset, .unset, .unset, .unset, .unset, .unset, .unset, .unset] []))
    refine OGo.on (fun t k => XS.iload X0.here hx rfl (hb hby at_52) rfl k) ?_
    refine OGo.on (fun t k => XS.iconst X0.here hx rfl (hb hby at_54) k) ?_
    refine OGo.on (fun t k => XS.iand X0.here hx rfl (hb hby at_55) rfl k) ?_
    show OGo p e below s _ _ _ (s₁.setTop (mkF m 56 #[.val (.int va), .val (.int vcnt), .val (.int vbits), .val (.int vown), .val (.int voth), .val (.int vfl), .val (.int vr1), .val (.int vs1), .val (.int vr2), .val (.int vs2), .val (.int vk), .val (.int vm), .val (.int x12), .unset, .unset, .unset, .unset, .unset, .unset, .unset, .unset, .unset, .unset, .unset, .unset] [(.int (vfl &&& (2 : Int32)))]))
    by_cases hc1091 : (vfl &&& (2 : Int32)) = (0 : Int32)
    · refine OGo.on (fun t k => XS.ifYes X0.here hx rfl (pc0 := 56) (pc' := 63) rfl (hb hby at_56) rfl ((if0 _ _).trans (teq hc1091).1) (by decide) (by decide) k) ?_
      show OGo p e below s _ _ _ (s₁.setTop (mkF m 63 #[.val (.int va), .val (.int vcnt), .val (.int vbits), .val (.int vown), .val (.int voth), .val (.int vfl), .val (.int vr1), .val (.int vs1), .val (.int vr2), .val (.int vs2), .val (.int vk), .val (.int vm), .val (.int x12), .unset, .unset, .unset, .unset, .unset, .unset, .unset, .unset, .unset, .unset, .unset, .unset] []))
      refine OGo.on (fun t k => XS.iconst X0.here hx rfl (hb hby at_63) k) ?_
      refine OGo.on (fun t k => XS.istore X0.here hx rfl (hb hby at_64) rfl (l' := #[.val (.int va), .val (.int vcnt), .val (.int vbits), .val (.int vown), .val (.int voth), .val (.int vfl), .val (.int vr1), .val (.int vs1), .val (.int vr2), .val (.int vs2), .val (.int vk), .val (.int vm), .val (.int x12), .val (.int (0 : Int32)), .unset, .unset, .unset, .unset, .unset, .unset, .unset, .unset, .unset, .unset, .unset]) rfl k) ?_
      show OGo p e below s _ _ _ (s₁.setTop (mkF m 66 #[.val (.int va), .val (.int vcnt), .val (.int vbits), .val (.int vown), .val (.int voth), .val (.int vfl), .val (.int vr1), .val (.int vs1), .val (.int vr2), .val (.int vs2), .val (.int vk), .val (.int vm), .val (.int x12), .val (.int (0 : Int32)), .unset, .unset, .unset, .unset, .unset, .unset, .unset, .unset, .unset, .unset, .unset] []))
      exact J66 _ _
    · refine OGo.on (fun t k => XS.ifNo X0.here hx rfl (hb hby at_56) rfl ((if0 _ _).trans (feq hc1091).1) k) ?_
      show OGo p e below s _ _ _ (s₁.setTop (mkF m 59 #[.val (.int va), .val (.int vcnt), .val (.int vbits), .val (.int vown), .val (.int voth), .val (.int vfl), .val (.int vr1), .val (.int vs1), .val (.int vr2), .val (.int vs2), .val (.int vk), .val (.int vm), .val (.int x12), .unset, .unset, .unset, .unset, .unset, .unset, .unset, .unset, .unset, .unset, .unset, .unset] []))
      refine OGo.on (fun t k => XS.iconst X0.here hx rfl (hb hby at_59) k) ?_
      refine OGo.on (fun t k => XS.goto X0.here hx rfl (pc0 := 60) (pc' := 64) rfl (hb hby at_60) (by decide) (by decide) k) ?_
      refine OGo.on (fun t k => XS.istore X0.here hx rfl (hb hby at_64) rfl (l' := #[.val (.int va), .val (.int vcnt), .val (.int vbits), .val (.int vown), .val (.int voth), .val (.int vfl), .val (.int vr1), .val (.int vs1), .val (.int vr2), .val (.int vs2), .val (.int vk), .val (.int vm), .val (.int x12), .val (.int (1 : Int32)), .unset, .unset, .unset, .unset, .unset, .unset, .unset, .unset, .unset, .unset, .unset]) rfl k) ?_
      show OGo p e below s _ _ _ (s₁.setTop (mkF m 66 #[.val (.int va), .val (.int vcnt), .val (.int vbits), .val (.int vown), .val (.int voth), .val (.int vfl), .val (.int vr1), .val (.int vs1), .val (.int vr2), .val (.int vs2), .val (.int vk), .val (.int vm), .val (.int x12), .val (.int (1 : Int32)), .unset, .unset, .unset, .unset, .unset, .unset, .unset, .unset, .unset, .unset, .unset] []))
      exact J66 _ _
  refine OGo.on (fun t k => XS.iload X0.here hx rfl (hb hby at_38) rfl k) ?_
  refine OGo.on (fun t k => XS.iconst X0.here hx rfl (hb hby at_40) k) ?_
  refine OGo.on (fun t k => XS.iand X0.here hx rfl (hb hby at_41) rfl k) ?_
  show OGo p e below s _ _ _ (s₁.setTop (mkF m 42 #[.val (.int va), .val (.int vcnt), .val (.int vbits), .val (.int vown), .val (.int voth), .val (.int vfl), .val (.int vr1), .val (.int vs1), .val (.int vr2), .val (.int vs2), .val (.int vk), .val (.int vm), .unset, .unset, .unset, .unset, .unset, .unset, .unset, .unset, .unset, .unset, .unset, .unset, .unset] [(.int (vfl &&& (1 : Int32)))]))
  by_cases hc1092 : (vfl &&& (1 : Int32)) = (0 : Int32)
  · refine OGo.on (fun t k => XS.ifYes X0.here hx rfl (pc0 := 42) (pc' := 49) rfl (hb hby at_42) rfl ((if0 _ _).trans (teq hc1092).1) (by decide) (by decide) k) ?_
    show OGo p e below s _ _ _ (s₁.setTop (mkF m 49 #[.val (.int va), .val (.int vcnt), .val (.int vbits), .val (.int vown), .val (.int voth), .val (.int vfl), .val (.int vr1), .val (.int vs1), .val (.int vr2), .val (.int vs2), .val (.int vk), .val (.int vm), .unset, .unset, .unset, .unset, .unset, .unset, .unset, .unset, .unset, .unset, .unset, .unset, .unset] []))
    refine OGo.on (fun t k => XS.iconst X0.here hx rfl (hb hby at_49) k) ?_
    refine OGo.on (fun t k => XS.istore X0.here hx rfl (hb hby at_50) rfl (l' := #[.val (.int va), .val (.int vcnt), .val (.int vbits), .val (.int vown), .val (.int voth), .val (.int vfl), .val (.int vr1), .val (.int vs1), .val (.int vr2), .val (.int vs2), .val (.int vk), .val (.int vm), .val (.int (0 : Int32)), .unset, .unset, .unset, .unset, .unset, .unset, .unset, .unset, .unset, .unset, .unset, .unset]) rfl k) ?_
    show OGo p e below s _ _ _ (s₁.setTop (mkF m 52 #[.val (.int va), .val (.int vcnt), .val (.int vbits), .val (.int vown), .val (.int voth), .val (.int vfl), .val (.int vr1), .val (.int vs1), .val (.int vr2), .val (.int vs2), .val (.int vk), .val (.int vm), .val (.int (0 : Int32)), .unset, .unset, .unset, .unset, .unset, .unset, .unset, .unset, .unset, .unset, .unset, .unset] []))
    exact J52 _
  · refine OGo.on (fun t k => XS.ifNo X0.here hx rfl (hb hby at_42) rfl ((if0 _ _).trans (feq hc1092).1) k) ?_
    show OGo p e below s _ _ _ (s₁.setTop (mkF m 45 #[.val (.int va), .val (.int vcnt), .val (.int vbits), .val (.int vown), .val (.int voth), .val (.int vfl), .val (.int vr1), .val (.int vs1), .val (.int vr2), .val (.int vs2), .val (.int vk), .val (.int vm), .unset, .unset, .unset, .unset, .unset, .unset, .unset, .unset, .unset, .unset, .unset, .unset, .unset] []))
    refine OGo.on (fun t k => XS.iconst X0.here hx rfl (hb hby at_45) k) ?_
    refine OGo.on (fun t k => XS.goto X0.here hx rfl (pc0 := 46) (pc' := 50) rfl (hb hby at_46) (by decide) (by decide) k) ?_
    refine OGo.on (fun t k => XS.istore X0.here hx rfl (hb hby at_50) rfl (l' := #[.val (.int va), .val (.int vcnt), .val (.int vbits), .val (.int vown), .val (.int voth), .val (.int vfl), .val (.int vr1), .val (.int vs1), .val (.int vr2), .val (.int vs2), .val (.int vk), .val (.int vm), .val (.int (1 : Int32)), .unset, .unset, .unset, .unset, .unset, .unset, .unset, .unset, .unset, .unset, .unset, .unset]) rfl k) ?_
    show OGo p e below s _ _ _ (s₁.setTop (mkF m 52 #[.val (.int va), .val (.int vcnt), .val (.int vbits), .val (.int vown), .val (.int voth), .val (.int vfl), .val (.int vr1), .val (.int vs1), .val (.int vr2), .val (.int vs2), .val (.int vk), .val (.int vm), .val (.int (1 : Int32)), .unset, .unset, .unset, .unset, .unset, .unset, .unset, .unset, .unset, .unset, .unset, .unset] []))
    exact J52 _
set_option maxRecDepth 65536 in
set_option maxHeartbeats 40000000 in
theorem comes_1 {Post : Tables → Env → Array Value → State → Outcome → State → Prop} (hpost : ∀ tb e args s v u, (limb_1_1.after args s (.returned v) u = true ∧ limb_1_2.after args s (.returned v) u = true ∧ True) → FrameEnd s (.returned v) u (Jvm.fieldLocs frame_1_writes args s ++ Jvm.arrayLocs frame_1_arrays args s ++ Jvm.staticLocs frame_1_statics s) 24 192 → Post tb e args s (.returned v) u) :
    ArmFor flags0 classFile x code maxLocals ret World_1 tables_1 room_1 Calls_1 rest_1 Pre_1 Post := by
  intro l hfl _ _ p e ha hc hk s m args below hf hA hF happ hP
  obtain ⟨hcalls, hrest, hpre⟩ := hP
  obtain ⟨-, -, -, hnamed, -, -, -, hat⟩ := (Spec.applies_iff hf).mp happ
  obtain ⟨hg, hn⟩ := and_e (Cond.before_iff.mp (show (Jvm.Cond.and given_1 narrow_1).before args s = true from hpre))
  obtain ⟨gg1093, gg1094⟩ := and_e hg
  obtain ⟨gg1095, gg1096⟩ := and_e gg1094
  obtain ⟨gg1097, gg1098⟩ := and_e gg1096
  obtain ⟨gg1099, gg1100⟩ := and_e gg1098
  obtain ⟨gg1101, gg1102⟩ := and_e gg1100
  obtain ⟨gg1103, gg1104⟩ := and_e gg1102
  obtain ⟨w0, w1, w2, w3, w4, w5, rfl⟩ : ∃ w0 w1 w2 w3 w4 w5 : Value, args = #[w0, w1, w2, w3, w4, w5] := by
    have hs : args.size = 6 := by simpa [Cond.value, given_1] using gg1093
    obtain ⟨L⟩ := args
    match L, hs with
    | [w0, w1, w2, w3, w4, w5], _ => exact ⟨w0, w1, w2, w3, w4, w5, rfl⟩
  have hw := fun d (hd : d ∈ tables_1) => atoms_spec (ws := Jvm.Cond.code x code maxLocals ret :: tables_1) hat d (List.mem_cons_of_mem _ hd)
  obtain ⟨i0, ei0⟩ := is_v gg1095
  obtain rfl : w0 = (.int i0) := Option.some.inj ei0
  obtain ⟨i1, ei1⟩ := is_v gg1097
  obtain rfl : w1 = (.int i1) := Option.some.inj ei1
  obtain ⟨i2, ei2⟩ := is_v gg1099
  obtain rfl : w2 = (.int i2) := Option.some.inj ei2
  obtain ⟨i3, ei3⟩ := is_v gg1101
  obtain rfl : w3 = (.int i3) := Option.some.inj ei3
  obtain ⟨i4, ei4⟩ := is_v gg1103
  obtain rfl : w4 = (.int i4) := Option.some.inj ei4
  obtain ⟨i5, ei5⟩ := is_v gg1104
  obtain rfl : w5 = (.int i5) := Option.some.inj ei5
  obtain ⟨n, o, h1, h2, h3, _, L, rfl, ⟨rfl, N⟩, hq⟩ := own_law l s _ hw tables_1 i0 i1 i2 i3 i4 i5 s.heap s.heap.size (Nat.le_refl _)  p e ha hc hk s m _ below hf ((Spec.applies_iff_loose hf).mp happ).1 ⟨rfl, State.Warmed39.refl s, rfl⟩ trivial
  refine ⟨n, _, h1, h2, h3, hpost _ _ _ _ _ _ ⟨Cond.after_iff.mpr rfl, Cond.after_iff.mpr (eq_i res_at (Term.int_eval (1)) rfl), trivial⟩ ⟨hq.1, hq.2.1, (hq.2.2.sift fun y hy => Or.inr (N y hy)).mono (by decide) (by decide)⟩⟩
theorem main_1_1 : Claimed_1_1 := comes_1 fun _ _ _ _ _ _ h hF => ⟨h.1, hF⟩
theorem main_1_2 : Claimed_1_2 := comes_1 fun _ _ _ _ _ _ h hF => ⟨h.2.1, hF⟩
end Jvm.Pilot.@@N@@
namespace Jvm.Pilot.@@N@@
open Jvm Jvm.ClassFile Sem Op Lib Jvm.Free Jvm.Stand Jvm.Pilot.@@N@@.Jvm.D
/-! MADE BY PROGRAM (witnessworld.py) out of the Statement's table words and the real class files: 14 classes; the members and pool entries that the words name. The judged class is class 1, her method 1. -/
namespace start1
open Jvm.ClassFile
def u (s : String) : CpInfo := .utf8 (stringToUtf16 s)
/-- a pool by its gaps: so many unusable entries, then the entry; so many at the end -/
def gap : Nat → List CpInfo → List CpInfo
  | 0, r => r
  | n + 1, r => .unusable :: gap n r
def poolList (es : List (Nat × CpInfo)) (last : Nat) : List CpInfo := es.foldr (fun e r => gap e.1 (e.2 :: r)) (gap last [])
def pool (es : List (Nat × CpInfo)) (last : Nat) : Array CpInfo := ⟨poolList es last⟩
def fileOf (pool : Array CpInfo) (this : Nat) (attrs : Array Attribute := #[]) (ms : Array MethodInfo := #[]) (fl : Nat := 33) (sup : Nat := 0) (ifs : Array Nat := #[]) (fds : Array FieldInfo := #[]) : ClassFile where
  minorVersion := 0
  majorVersion := 65
  constantPool := pool
  accessFlags := fl
  thisClass := this
  superClass := sup
  interfaces := ifs
  fields := fds
  methods := ms
  attributes := attrs
def plain (name : String) (sup : Option ClassId) : Class where
  name := name
  kind := .ordinary
  loader := none
  accessFlags := 33
  super := sup
  interfaces := #[]
  cf := none
  fields := #[]
  methods := #[]
  instanceTypes := #[]
  staticTypes := #[]
  resolved := #[]
  callSites := []
  init := .initialized
  statics := none
  mirror := none

def pool0 : Array CpInfo := pool [(5, u "<init>"), (0, u "()V"), (1, .class_ 10), (1, u "java/lang/Object")] 113

def k0c0 : Code := { maxStack := 0, maxLocals := 1, code := object_method_1_code, exceptionTable := #[], attributes := #[] }
def k0m0 : Method := { name := "<init>", desc := "()V", sig := { parameters := [], returnType := none }, accessFlags := 1, code := some k0c0 }
/-- java/lang/Object -/
def k0 : Class := { plain "java/lang/Object" none with
  accessFlags := 33
  interfaces := #[]
  cf := some (fileOf pool0 8 #[] #[{ accessFlags := 1, nameIndex := 5, descriptorIndex := 6, attributes := #[] }] 33 0 #[] #[])
  fields := #[]
  methods := #[k0m0]
  instanceTypes := #[]
  staticTypes := #[]
  resolved := Array.replicate 124 none
  statics := none }

def pool1 : Array CpInfo := pool [(2, .class_ 4), (1, u "java/lang/Object"), (0, u "<init>"), (0, u "()V"), (0, .long 2), (1, .class_ 10), (0, u "com/example/slotwright/slotwright/solver/Occupancy"), (0, .methodref 9 12), (0, .nameAndType 5 13), (0, u "(II[Z)V"), (0, .methodref 9 15), (0, .nameAndType 16 17), (0, u "add"), (0, u "(II)I"), (0, .methodref 9 19), (0, .nameAndType 20 6), (0, u "raiseWeights"), (0, .methodref 9 22), (0, .nameAndType 23 24), (0, u "clashes"), (0, u "(III)J"), (0, .class_ 26), (0, u "com/example/slotwright/slotwright/solver/OccupancyClashesPinLaw"), (2, u "law"), (0, u "(IIIIII)Z")] 5

def k1m0 : Method := { name := "<init>", desc := "()V", sig := { parameters := [], returnType := none }, accessFlags := 2, code := none }
def k1c1 : Code := { maxStack := 6, maxLocals := 25, code := code, exceptionTable := #[], attributes := #[] }
def k1m1 : Method := { name := "law", desc := "(IIIIII)Z", sig := { parameters := [.int, .int, .int, .int, .int, .int], returnType := some .boolean }, accessFlags := 9, code := some k1c1 }
/-- com/example/slotwright/slotwright/solver/OccupancyClashesPinLaw -/
def k1 : Class := { plain "com/example/slotwright/slotwright/solver/OccupancyClashesPinLaw" (some 0) with
  accessFlags := 49
  interfaces := #[]
  cf := some (fileOf pool1 25 #[] #[{ accessFlags := 2, nameIndex := 5, descriptorIndex := 6, attributes := #[] }, { accessFlags := 9, nameIndex := 29, descriptorIndex := 30, attributes := #[] }] 49 2 #[] #[])
  fields := #[]
  methods := #[k1m0, k1m1]
  instanceTypes := #[]
  staticTypes := #[]
  resolved := Array.replicate 36 none
  statics := none }

def pool2 : Array CpInfo := pool [(1, .methodref 2 3), (0, .class_ 4), (0, .nameAndType 5 6), (0, u "java/lang/Object"), (0, u "<init>"), (0, u "()V"), (0, .fieldref 8 9), (0, .class_ 10), (0, .nameAndType 11 12), (0, u "com/example/slotwright/slotwright/solver/Occupancy"), (0, u "clashing"), (0, u "[I"), (0, .fieldref 8 14), (0, .nameAndType 15 16), (0, u "slots"), (0, u "I"), (0, .methodref 18 19), (0, .class_ 20), (0, .nameAndType 21 22), (0, u "com/example/slotwright/slotwright/solver/Tables"), (0, u "cells"), (0, u "(II)I"), (0, .fieldref 8 24), (0, .nameAndType 25 12), (0, u "meetings"), (0, .fieldref 8 27), (0, .nameAndType 28 29), (0, u "closed"), (0, u "[Z"), (0, .methodref 18 31), (0, .nameAndType 32 33), (0, u "filled"), (0, u "(II)[I"), (0, .fieldref 8 35), (0, .nameAndType 36 12), (0, u "weights"), (0, .fieldref 8 38), (0, .nameAndType 39 29), (0, u "listed"), (2, u "(II[Z)V"), (0, .methodref 8 44), (0, .nameAndType 45 46), (0, u "clashes"), (0, u "(III)J"), (0, .fieldref 8 48), (0, .nameAndType 49 50), (0, u "weighted"), (0, u "J"), (0, .fieldref 8 52), (0, .nameAndType 53 16), (0, u "clashingCount"), (6, .methodref 61 62), (0, .class_ 63), (0, .nameAndType 64 22), (0, u "java/lang/Math"), (0, u "max"), (5, u "add"), (3, u "raiseWeights")] 2

def k2c0 : Code := { maxStack := 3, maxLocals := 4, code := prog_60_method_1_code, exceptionTable := #[], attributes := #[] }
def k2m0 : Method := { name := "<init>", desc := "(II[Z)V", sig := { parameters := [.int, .int, (.array .boolean)], returnType := none }, accessFlags := 0, code := some k2c0 }
def k2c1 : Code := { maxStack := 5, maxLocals := 7, code := prog_60_method_4_code, exceptionTable := #[], attributes := #[] }
def k2m1 : Method := { name := "add", desc := "(II)I", sig := { parameters := [.int, .int], returnType := some .int }, accessFlags := 0, code := some k2c1 }
def k2c2 : Code := { maxStack := 5, maxLocals := 5, code := prog_60_method_6_code, exceptionTable := #[], attributes := #[] }
def k2m2 : Method := { name := "clashes", desc := "(III)J", sig := { parameters := [.int, .int, .int], returnType := some .long }, accessFlags := 0, code := some k2c2 }
def k2c3 : Code := { maxStack := 5, maxLocals := 5, code := prog_60_method_8_code, exceptionTable := #[], attributes := #[] }
def k2m3 : Method := { name := "raiseWeights", desc := "()V", sig := { parameters := [], returnType := none }, accessFlags := 0, code := some k2c3 }
/-- com/example/slotwright/slotwright/solver/Occupancy -/
def k2 : Class := { plain "com/example/slotwright/slotwright/solver/Occupancy" (some 0) with
  accessFlags := 32
  interfaces := #[]
  cf := some (fileOf pool2 8 #[] #[{ accessFlags := 0, nameIndex := 5, descriptorIndex := 42, attributes := #[] }, { accessFlags := 0, nameIndex := 70, descriptorIndex := 22, attributes := #[] }, { accessFlags := 0, nameIndex := 45, descriptorIndex := 46, attributes := #[] }, { accessFlags := 0, nameIndex := 74, descriptorIndex := 6, attributes := #[] }] 32 2 #[] #[{ accessFlags := 18, nameIndex := 15, descriptorIndex := 16, attributes := #[] }, { accessFlags := 18, nameIndex := 25, descriptorIndex := 12, attributes := #[] }, { accessFlags := 18, nameIndex := 28, descriptorIndex := 29, attributes := #[] }, { accessFlags := 18, nameIndex := 36, descriptorIndex := 12, attributes := #[] }, { accessFlags := 18, nameIndex := 39, descriptorIndex := 29, attributes := #[] }, { accessFlags := 2, nameIndex := 11, descriptorIndex := 12, attributes := #[] }, { accessFlags := 2, nameIndex := 53, descriptorIndex := 16, attributes := #[] }, { accessFlags := 2, nameIndex := 49, descriptorIndex := 50, attributes := #[] }])
  fields := #[{ name := "slots", type := .int, accessFlags := 18, slot := 0, constantValue := 0 }, { name := "meetings", type := (.array .int), accessFlags := 18, slot := 1, constantValue := 0 }, { name := "closed", type := (.array .boolean), accessFlags := 18, slot := 2, constantValue := 0 }, { name := "weights", type := (.array .int), accessFlags := 18, slot := 3, constantValue := 0 }, { name := "listed", type := (.array .boolean), accessFlags := 18, slot := 4, constantValue := 0 }, { name := "clashing", type := (.array .int), accessFlags := 2, slot := 5, constantValue := 0 }, { name := "clashingCount", type := .int, accessFlags := 2, slot := 6, constantValue := 0 }, { name := "weighted", type := .long, accessFlags := 2, slot := 7, constantValue := 0 }]
  methods := #[k2m0, k2m1, k2m2, k2m3]
  instanceTypes := #[.int, (.array .int), (.array .boolean), (.array .int), (.array .boolean), (.array .int), .int, .long]
  staticTypes := #[]
  resolved := Array.replicate 77 none
  statics := none }

def pool3 : Array CpInfo := pool [(2, .class_ 4), (1, u "java/lang/Object"), (0, u "<init>"), (0, u "()V"), (2, .long 2147483647), (23, .methodref 34 35), (0, .class_ 36), (0, .nameAndType 37 38), (0, u "java/util/Arrays"), (0, u "fill"), (0, u "([II)V"), (0, .class_ 40), (0, u "com/example/slotwright/slotwright/solver/Tables"), (2, u "cells"), (0, u "(II)I"), (7, u "filled"), (0, u "(II)[I")] 17

def k3m0 : Method := { name := "<init>", desc := "()V", sig := { parameters := [], returnType := none }, accessFlags := 2, code := none }
def k3c1 : Code := { maxStack := 4, maxLocals := 4, code := prog_67_method_2_code, exceptionTable := #[], attributes := #[] }
def k3m1 : Method := { name := "cells", desc := "(II)I", sig := { parameters := [.int, .int], returnType := some .int }, accessFlags := 8, code := some k3c1 }
def k3c2 : Code := { maxStack := 2, maxLocals := 3, code := prog_67_method_4_code, exceptionTable := #[], attributes := #[] }
def k3m2 : Method := { name := "filled", desc := "(II)[I", sig := { parameters := [.int, .int], returnType := some (.array .int) }, accessFlags := 8, code := some k3c2 }
/-- com/example/slotwright/slotwright/solver/Tables -/
def k3 : Class := { plain "com/example/slotwright/slotwright/solver/Tables" (some 0) with
  accessFlags := 32
  interfaces := #[]
  cf := some (fileOf pool3 39 #[] #[{ accessFlags := 2, nameIndex := 5, descriptorIndex := 6, attributes := #[] }, { accessFlags := 8, nameIndex := 43, descriptorIndex := 44, attributes := #[] }, { accessFlags := 8, nameIndex := 52, descriptorIndex := 53, attributes := #[] }] 32 2 #[] #[])
  fields := #[]
  methods := #[k3m0, k3m1, k3m2]
  instanceTypes := #[]
  staticTypes := #[]
  resolved := Array.replicate 71 none
  statics := none }

def pool4 : Array CpInfo := pool [(2, .class_ 4), (1, u "java/lang/Object"), (0, u "<init>"), (0, u "()V"), (7, .class_ 16), (1, u "java/util/Arrays"), (57, .class_ 76), (1, u "java/util/Arrays$NaturalOrder"), (36, .class_ 115), (1, u "java/util/Arrays$LegacyMergeSort"), (1, u "Z"), (257, .class_ 376), (0, u "java/util/Arrays$ArrayList"), (68, u "$assertionsDisabled"), (269, u "MIN_ARRAY_SORT_GRAN"), (0, u "I"), (2, u "INSERTIONSORT_THRESHOLD"), (120, u "fill"), (4, u "([II)V"), (129, .class_ 976), (0, u "java/util/Arrays$ArrayItr")] 52

def k4m0 : Method := { name := "<init>", desc := "()V", sig := { parameters := [], returnType := none }, accessFlags := 2, code := none }
def k4c1 : Code := { maxStack := 3, maxLocals := 4, code := jdk_65_method_103_code, exceptionTable := #[], attributes := #[] }
def k4m1 : Method := { name := "fill", desc := "([II)V", sig := { parameters := [(.array .int), .int], returnType := none }, accessFlags := 9, code := some k4c1 }
/-- java/util/Arrays -/
def k4 : Class := { plain "java/util/Arrays" (some 0) with
  accessFlags := 49
  interfaces := #[]
  cf := some (fileOf pool4 14 #[.nestMembers #[975, 375, 113, 74]] #[{ accessFlags := 2, nameIndex := 5, descriptorIndex := 6, attributes := #[] }, { accessFlags := 9, nameIndex := 840, descriptorIndex := 845, attributes := #[] }] 49 2 #[] #[{ accessFlags := 26, nameIndex := 715, descriptorIndex := 716, attributes := #[] }, { accessFlags := 26, nameIndex := 719, descriptorIndex := 716, attributes := #[] }, { accessFlags := 4120, nameIndex := 445, descriptorIndex := 117, attributes := #[] }])
  fields := #[{ name := "MIN_ARRAY_SORT_GRAN", type := .int, accessFlags := 26, slot := 0, constantValue := 0 }, { name := "INSERTIONSORT_THRESHOLD", type := .int, accessFlags := 26, slot := 1, constantValue := 0 }, { name := "$assertionsDisabled", type := .boolean, accessFlags := 4120, slot := 2, constantValue := 0 }]
  methods := #[k4m0, k4m1]
  instanceTypes := #[]
  staticTypes := #[.int, .int, .boolean]
  resolved := Array.replicate 1029 none
  statics := none }

def pool5 : Array CpInfo := pool [(1, .class_ 2), (0, u "java/lang/Math"), (1, .class_ 6), (1, u "java/lang/Object"), (0, u "<init>"), (0, u "()V"), (89, .class_ 100), (1, u "java/lang/Math$RandomNumberGeneratorHolder"), (71, u "negativeZeroFloatBits"), (0, u "J"), (2, u "negativeZeroDoubleBits"), (21, u "max"), (46, u "$assertionsDisabled"), (0, u "Z"), (88, u "(II)I"), (2, u "twoToTheDoubleScaleDown"), (0, u "D"), (4, u "twoToTheDoubleScaleUp"), (9, u "E"), (3, u "PI"), (2, u "TAU"), (2, u "DEGREES_TO_RADIANS"), (0, u "RADIANS_TO_DEGREES")] 94

def k5m0 : Method := { name := "<init>", desc := "()V", sig := { parameters := [], returnType := none }, accessFlags := 2, code := none }
def k5c1 : Code := { maxStack := 2, maxLocals := 2, code := jdk_29_method_65_code, exceptionTable := #[], attributes := #[] }
def k5m1 : Method := { name := "max", desc := "(II)I", sig := { parameters := [.int, .int], returnType := some .int }, accessFlags := 9, code := some k5c1 }
/-- java/lang/Math -/
def k5 : Class := { plain "java/lang/Math" (some 0) with
  accessFlags := 49
  interfaces := #[]
  cf := some (fileOf pool5 1 #[.nestMembers #[98]] #[{ accessFlags := 2, nameIndex := 7, descriptorIndex := 8, attributes := #[] }, { accessFlags := 9, nameIndex := 198, descriptorIndex := 335, attributes := #[] }] 49 4 #[] #[{ accessFlags := 25, nameIndex := 354, descriptorIndex := 339, attributes := #[] }, { accessFlags := 25, nameIndex := 358, descriptorIndex := 339, attributes := #[] }, { accessFlags := 25, nameIndex := 361, descriptorIndex := 339, attributes := #[] }, { accessFlags := 26, nameIndex := 364, descriptorIndex := 339, attributes := #[] }, { accessFlags := 26, nameIndex := 365, descriptorIndex := 339, attributes := #[] }, { accessFlags := 26, nameIndex := 172, descriptorIndex := 173, attributes := #[] }, { accessFlags := 26, nameIndex := 176, descriptorIndex := 173, attributes := #[] }, { accessFlags := 8, nameIndex := 344, descriptorIndex := 339, attributes := #[] }, { accessFlags := 8, nameIndex := 338, descriptorIndex := 339, attributes := #[] }, { accessFlags := 4120, nameIndex := 245, descriptorIndex := 246, attributes := #[] }])
  fields := #[{ name := "E", type := .double, accessFlags := 25, slot := 0, constantValue := 0 }, { name := "PI", type := .double, accessFlags := 25, slot := 1, constantValue := 0 }, { name := "TAU", type := .double, accessFlags := 25, slot := 2, constantValue := 0 }, { name := "DEGREES_TO_RADIANS", type := .double, accessFlags := 26, slot := 3, constantValue := 0 }, { name := "RADIANS_TO_DEGREES", type := .double, accessFlags := 26, slot := 4, constantValue := 0 }, { name := "negativeZeroFloatBits", type := .long, accessFlags := 26, slot := 5, constantValue := 0 }, { name := "negativeZeroDoubleBits", type := .long, accessFlags := 26, slot := 6, constantValue := 0 }, { name := "twoToTheDoubleScaleUp", type := .double, accessFlags := 8, slot := 7, constantValue := 0 }, { name := "twoToTheDoubleScaleDown", type := .double, accessFlags := 8, slot := 8, constantValue := 0 }, { name := "$assertionsDisabled", type := .boolean, accessFlags := 4120, slot := 9, constantValue := 0 }]
  methods := #[k5m0, k5m1]
  instanceTypes := #[]
  staticTypes := #[.double, .double, .double, .double, .double, .long, .long, .double, .double, .boolean]
  resolved := Array.replicate 460 none
  statics := none }

def pool6 : Array CpInfo := pool [(1, u "java/lang/Cloneable"), (0, .class_ 1), (0, u "java/lang/Object"), (0, .class_ 3)] 3

/-- java/lang/Cloneable -/
def k6 : Class := { plain "java/lang/Cloneable" (some 0) with
  accessFlags := 1537
  interfaces := #[]
  cf := some (fileOf pool6 2 #[] #[] 1537 4 #[] #[])
  fields := #[]
  methods := #[]
  instanceTypes := #[]
  staticTypes := #[]
  resolved := Array.replicate 8 none
  statics := none }

def pool7 : Array CpInfo := pool [(1, u "java/io/Serializable"), (0, .class_ 1), (0, u "java/lang/Object"), (0, .class_ 3)] 3

/-- java/io/Serializable -/
def k7 : Class := { plain "java/io/Serializable" (some 0) with
  accessFlags := 1537
  interfaces := #[]
  cf := some (fileOf pool7 2 #[] #[] 1537 4 #[] #[])
  fields := #[]
  methods := #[]
  instanceTypes := #[]
  staticTypes := #[]
  resolved := Array.replicate 8 none
  statics := none }

/-- the primitive boolean -/
def k8 : Class := { plain "boolean" none with kind := .primitive 'Z', accessFlags := 0x411 }
/-- [Z -/
def k9 : Class := { plain "[Z" (some 0) with kind := .array 8 .boolean, interfaces := #[6, 7], accessFlags := 1041 }

/-- the primitive byte -/
def k10 : Class := { plain "byte" none with kind := .primitive 'B', accessFlags := 0x411 }
/-- [B -/
def k11 : Class := { plain "[B" (some 0) with kind := .array 10 .byte, interfaces := #[6, 7], accessFlags := 1041 }

/-- the primitive int -/
def k12 : Class := { plain "int" none with kind := .primitive 'I', accessFlags := 0x411 }
/-- [I -/
def k13 : Class := { plain "[I" (some 0) with kind := .array 12 .int, interfaces := #[6, 7], accessFlags := 1041 }

def heap : Heap := #[]
def classes : Array Class := #[k0, k1, k2, k3, k4, k5, k6, k7, k8, k9, k10, k11, k12, k13]
def interned : List (Array UInt16 × Addr) := []
def slotsUsed : Nat := 0
def theMethod : MethodId := ⟨1, 1⟩
def args0 : Array Value := #[.int 5, .int 3, .int 0, .int 1, .int 2, .int 7]
def aboutOver (below : List Frame) : State where
  vm := { classes := classes, interned := interned.toArray }
  heap := heap
  slotsUsed := slotsUsed
  threads := #[{ frames := .invoking theMethod args0 :: below }]
def below0 : List Frame := [.native { method := ⟨0, 0⟩, args := #[] }]
def about1 : State := aboutOver below0
def p0 : Program := .bare "" "" ""
def e0 : Env := launch0.env 0 0 0
theorem w_frames : about1.frames = Frame.invoking theMethod args0 :: below0 := rfl
set_option maxRecDepth 65536 in
theorem w_args : argsFit about1.vm theMethod args0 = true := by decide +kernel
set_option maxRecDepth 65536 in
theorem w_heap : heapFits about1 = true := by decide +kernel
set_option maxRecDepth 65536 in
theorem w_runnable : about1.curStatus? = some .runnable := by decide +kernel
set_option maxRecDepth 65536 in
theorem w_alone : about1.alone = true := by decide +kernel
set_option maxRecDepth 65536 in
theorem w_named : about1.methodNamed? x = some theMethod := by decide +kernel
set_option maxRecDepth 65536 in
theorem w_hears : about1.hears theMethod below0 = true := by decide +kernel
set_option maxRecDepth 65536 in
theorem w_ripe : about1.ripe theMethod args0 below0 = true := by decide +kernel
theorem w_running : about1.status = .running := rfl
set_option maxRecDepth 65536 in
theorem w_room : about1.hasRoom e0.platform room_1 = true :=
  launch0.hasRoom_least _ room_1 (by decide +kernel) (by decide +kernel) (by decide +kernel) (by decide +kernel) (by decide +kernel) (by decide +kernel)
theorem allAtoms_all (ts : List Jvm.Cond) (a : Array Jvm.Value) (st : Jvm.State) : (allAtoms ts).before a st = ts.all (fun c => c.before a st) := by
  induction ts with
  | nil => rfl
  | cons c t ih =>
    show (Jvm.Cond.and c (allAtoms t)).before a st = _
    rw [Jvm.Cond.before_and, ih, List.all_cons]
def words1 : List Jvm.Cond := Jvm.Cond.code x code maxLocals ret :: tables_1
/-- a 'code' word, met by the world's own term for the bytes: nothing is compared byte by byte -/
theorem code_word {y : MethodName} {bytes : ByteArray} {mx : Nat} {rt : Option FieldType} {a : Array Value} {s : State} {m : MethodId} {meth : Method} {c : Code} (h1 : s.methodNamed? y = some m) (h2 : s.vm.method? m = some meth) (h3 : meth.code = some c) (h4 : c.code = bytes)
    (h5 : (c.maxLocals == mx && c.exceptionTable.isEmpty && decide (c.maxStack ≤ mostOperands) && decide (meth.sig.returnType = rt) && !meth.locks && decide (parseMethodDescriptor y.desc = some meth.sig)) = true) : (Jvm.Cond.code y bytes mx rt).before a s = true := by
  simp only [Bool.and_eq_true, beq_iff_eq, Bool.not_eq_true', decide_eq_true_eq] at h5
  obtain ⟨⟨⟨⟨⟨g1, g2⟩, g3⟩, g4⟩, g5⟩, g6⟩ := h5
  simp [Cond.before, Cond.holds, Cond.value, h1, h2, h3, h4, g1, g2, g3, g4, g5, g6]
def isCode : Jvm.Cond → Bool
  | .code _ _ _ _ => true
  | _ => false
theorem all_split {L : List Jvm.Cond} {P : Jvm.Cond → Bool} (h1 : L.all (fun c => isCode c || P c) = true) (h2 : ∀ c ∈ L.filter isCode, P c = true) : L.all P = true := by
  refine List.all_eq_true.mpr fun c hc => ?_
  have h := List.all_eq_true.mp h1 c hc
  rcases Bool.eq_false_or_eq_true (isCode c) with hi | hi
  · exact h2 c (List.mem_filter.mpr ⟨hc, hi⟩)
  · simpa [hi] using h
set_option maxRecDepth 65536 in
theorem w_c0 : (Jvm.Cond.code x code maxLocals ret).before args0 about1 = true := code_word (m := ⟨1, 1⟩) (meth := k1m1) (c := k1c1) (by decide +kernel) rfl rfl rfl (by decide +kernel)
set_option maxRecDepth 65536 in
theorem w_c1 : (Jvm.Cond.code ({ cls := "com/example/slotwright/slotwright/solver/Occupancy", name := "<init>", desc := "(II[Z)V" } : Jvm.MethodName) prog_60_method_1_code (4 : Nat) (Option.none : Option Jvm.ClassFile.FieldType)).before args0 about1 = true := code_word (m := ⟨2, 0⟩) (meth := k2m0) (c := k2c0) (by decide +kernel) rfl rfl rfl (by decide +kernel)
set_option maxRecDepth 65536 in
theorem w_c2 : (Jvm.Cond.code ({ cls := "java/lang/Object", name := "<init>", desc := "()V" } : Jvm.MethodName) object_method_1_code (1 : Nat) (Option.none : Option Jvm.ClassFile.FieldType)).before args0 about1 = true := code_word (m := ⟨0, 0⟩) (meth := k0m0) (c := k0c0) (by decide +kernel) rfl rfl rfl (by decide +kernel)
set_option maxRecDepth 65536 in
theorem w_c3 : (Jvm.Cond.code ({ cls := "com/example/slotwright/slotwright/solver/Tables", name := "cells", desc := "(II)I" } : Jvm.MethodName) prog_67_method_2_code (4 : Nat) (Option.some Jvm.ClassFile.FieldType.int)).before args0 about1 = true := code_word (m := ⟨3, 1⟩) (meth := k3m1) (c := k3c1) (by decide +kernel) rfl rfl rfl (by decide +kernel)
set_option maxRecDepth 65536 in
theorem w_c4 : (Jvm.Cond.code ({ cls := "com/example/slotwright/slotwright/solver/Tables", name := "filled", desc := "(II)[I" } : Jvm.MethodName) prog_67_method_4_code (3 : Nat) (Option.some (Jvm.ClassFile.FieldType.array Jvm.ClassFile.FieldType.int))).before args0 about1 = true := code_word (m := ⟨3, 2⟩) (meth := k3m2) (c := k3c2) (by decide +kernel) rfl rfl rfl (by decide +kernel)
set_option maxRecDepth 65536 in
theorem w_c5 : (Jvm.Cond.code ({ cls := "java/util/Arrays", name := "fill", desc := "([II)V" } : Jvm.MethodName) jdk_65_method_103_code (4 : Nat) (Option.none : Option Jvm.ClassFile.FieldType)).before args0 about1 = true := code_word (m := ⟨4, 1⟩) (meth := k4m1) (c := k4c1) (by decide +kernel) rfl rfl rfl (by decide +kernel)
set_option maxRecDepth 65536 in
theorem w_c6 : (Jvm.Cond.code ({ cls := "com/example/slotwright/slotwright/solver/Occupancy", name := "add", desc := "(II)I" } : Jvm.MethodName) prog_60_method_4_code (7 : Nat) (Option.some Jvm.ClassFile.FieldType.int)).before args0 about1 = true := code_word (m := ⟨2, 1⟩) (meth := k2m1) (c := k2c1) (by decide +kernel) rfl rfl rfl (by decide +kernel)
set_option maxRecDepth 65536 in
theorem w_c7 : (Jvm.Cond.code ({ cls := "com/example/slotwright/slotwright/solver/Occupancy", name := "clashes", desc := "(III)J" } : Jvm.MethodName) prog_60_method_6_code (5 : Nat) (Option.some Jvm.ClassFile.FieldType.long)).before args0 about1 = true := code_word (m := ⟨2, 2⟩) (meth := k2m2) (c := k2c2) (by decide +kernel) rfl rfl rfl (by decide +kernel)
set_option maxRecDepth 65536 in
theorem w_c8 : (Jvm.Cond.code ({ cls := "com/example/slotwright/slotwright/solver/Occupancy", name := "raiseWeights", desc := "()V" } : Jvm.MethodName) prog_60_method_8_code (5 : Nat) (Option.none : Option Jvm.ClassFile.FieldType)).before args0 about1 = true := code_word (m := ⟨2, 3⟩) (meth := k2m3) (c := k2c3) (by decide +kernel) rfl rfl rfl (by decide +kernel)
set_option maxRecDepth 65536 in
theorem w_c9 : (Jvm.Cond.code ({ cls := "java/lang/Math", name := "max", desc := "(II)I" } : Jvm.MethodName) jdk_29_method_65_code (2 : Nat) (Option.some Jvm.ClassFile.FieldType.int)).before args0 about1 = true := code_word (m := ⟨5, 1⟩) (meth := k5m1) (c := k5c1) (by decide +kernel) rfl rfl rfl (by decide +kernel)
def codes1 : List Jvm.Cond := [Jvm.Cond.code x code maxLocals ret, Jvm.Cond.code ({ cls := "com/example/slotwright/slotwright/solver/Occupancy", name := "<init>", desc := "(II[Z)V" } : Jvm.MethodName) prog_60_method_1_code (4 : Nat) (Option.none : Option Jvm.ClassFile.FieldType), Jvm.Cond.code ({ cls := "java/lang/Object", name := "<init>", desc := "()V" } : Jvm.MethodName) object_method_1_code (1 : Nat) (Option.none : Option Jvm.ClassFile.FieldType), Jvm.Cond.code ({ cls := "com/example/slotwright/slotwright/solver/Tables", name := "cells", desc := "(II)I" } : Jvm.MethodName) prog_67_method_2_code (4 : Nat) (Option.some Jvm.ClassFile.FieldType.int), Jvm.Cond.code ({ cls := "com/example/slotwright/slotwright/solver/Tables", name := "filled", desc := "(II)[I" } : Jvm.MethodName) prog_67_method_4_code (3 : Nat) (Option.some (Jvm.ClassFile.FieldType.array Jvm.ClassFile.FieldType.int)), Jvm.Cond.code ({ cls := "java/util/Arrays", name := "fill", desc := "([II)V" } : Jvm.MethodName) jdk_65_method_103_code (4 : Nat) (Option.none : Option Jvm.ClassFile.FieldType), Jvm.Cond.code ({ cls := "com/example/slotwright/slotwright/solver/Occupancy", name := "add", desc := "(II)I" } : Jvm.MethodName) prog_60_method_4_code (7 : Nat) (Option.some Jvm.ClassFile.FieldType.int), Jvm.Cond.code ({ cls := "com/example/slotwright/slotwright/solver/Occupancy", name := "clashes", desc := "(III)J" } : Jvm.MethodName) prog_60_method_6_code (5 : Nat) (Option.some Jvm.ClassFile.FieldType.long), Jvm.Cond.code ({ cls := "com/example/slotwright/slotwright/solver/Occupancy", name := "raiseWeights", desc := "()V" } : Jvm.MethodName) prog_60_method_8_code (5 : Nat) (Option.none : Option Jvm.ClassFile.FieldType), Jvm.Cond.code ({ cls := "java/lang/Math", name := "max", desc := "(II)I" } : Jvm.MethodName) jdk_29_method_65_code (2 : Nat) (Option.some Jvm.ClassFile.FieldType.int)]
set_option maxRecDepth 65536 in
theorem codes_eq : words1.filter isCode = codes1 := rfl
theorem w_codes : ∀ c ∈ words1.filter isCode, c.before args0 about1 = true := by
  rw [codes_eq]
  intro c hc
  simp only [codes1, List.mem_cons, List.not_mem_nil, or_false] at hc
  rcases hc with rfl | rfl | rfl | rfl | rfl | rfl | rfl | rfl | rfl | rfl
  · exact w_c0
  · exact w_c1
  · exact w_c2
  · exact w_c3
  · exact w_c4
  · exact w_c5
  · exact w_c6
  · exact w_c7
  · exact w_c8
  · exact w_c9
set_option maxRecDepth 65536 in
theorem w_t1 : (words1.take 24).all (fun c => isCode c || c.before args0 about1) = true := by decide +kernel
set_option maxRecDepth 65536 in
theorem w_t2 : ((words1.drop 24).take 24).all (fun c => isCode c || c.before args0 about1) = true := by decide +kernel
set_option maxRecDepth 65536 in
theorem w_t3 : ((words1.drop 24).drop 24).all (fun c => isCode c || c.before args0 about1) = true := by decide +kernel
theorem w_tables : (allAtoms (Jvm.Cond.code x code maxLocals ret :: tables_1)).before args0 about1 = true := by
  rw [allAtoms_all]
  show words1.all (fun c => c.before args0 about1) = true
  refine all_split ?_ w_codes
  rw [← List.take_append_drop 24 words1, List.all_append, w_t1, ← List.take_append_drop 24 (words1.drop 24), List.all_append, w_t2, w_t3]
  rfl
set_option maxRecDepth 65536 in
theorem w_case : (Jvm.Cond.and given_1 narrow_1).before args0 about1 = true := by decide +kernel
theorem w_applies : (headSpec (Jvm.Cond.code x code maxLocals ret :: tables_1) room_1).applies x e0.platform about1 = true :=
  (Spec.applies_iff w_frames).mpr ⟨w_running, w_runnable, w_alone, w_named, w_hears, w_ripe, w_room, w_tables⟩
theorem atStart : AtStart classFile x code maxLocals ret World_1 tables_1 room_1 Calls_1 rest_1 Pre_1 launch0 p0 e0 about1 theMethod args0 below0 :=
  ⟨lists_1, trivial, launch0.admits_env _ _ _, launch0.least_env, fairChoices_fair.cas, fairChoices_fair.clock, w_frames, w_args, w_heap, w_applies, trivial, trivial, w_case⟩
end start1
theorem witness_1 : WitnessClaimed_1 := ⟨start1.p0, start1.e0, start1.about1, start1.theMethod, start1.args0, start1.below0, start1.atStart⟩
end Jvm.Pilot.@@N@@
