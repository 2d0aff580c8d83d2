import JvmDerived
import JvmDerived.Pilot.@@N@@Statement
import JvmDerived.Pilot.@@N@@Code
set_option linter.unusedVariables false
set_option linter.unusedSimpArgs false
set_option maxHeartbeats 2000000
namespace Jvm.Pilot.@@N@@
open Jvm Jvm.ClassFile Sem Op Lib Jvm.Free Jvm.Stand Jvm.LawKit Jvm.RoadKit Bundle Jvm.Pilot.@@N@@.Jvm.D
section OwnKit
variable {p : Program} {l : Launch} {e : Env} {R : Room} {s : State} {m : MethodId} {args : Array Value} {below : List Frame} {meth : Method} {c : Code} {T : State} {locs : List Loc} {cells slots : Nat} {Z : State} {h h' : Heap} {a b : Addr}
def OwnWp (p : Program) (e : Env) (below : List Frame) (s : State) (C S : Nat) (Q : Option Value → Heap → List Loc → Prop) (U : State) : Prop :=
  ∃ s₂ o, Steps p.tables e below U s₂ ∧ s₂.status = .running ∧ Ended s₂ below o ∧ ∃ v L, o = .returned v ∧ Q v s₂.heap L ∧ FrameEnd s o s₂ L C S
variable {C S : Nat} {Q : Option Value → Heap → List Loc → Prop}
theorem OwnWp.step {U U' : State} (hs : ∀ t, Steps p.tables e below U' t → Steps p.tables e below U t) (k : OwnWp p e below s C S Q U') : OwnWp p e below s C S Q U := by
  obtain ⟨s2, o, h1, r⟩ := k
  exact ⟨s2, o, hs _ h1, r⟩
theorem OwnWp.go {U U' : State} (hs : Steps p.tables e below U U') (k : OwnWp p e below s C S Q U') : OwnWp p e below s C S Q U := k.step fun _ q => hs.trans q
theorem OwnWp.cast {g g' : JFrame} (q : g = g') (k : OwnWp p e below s C S Q (T.setTop g')) : OwnWp p e below s C S Q (T.setTop g) := q ▸ k
theorem OwnWp.retI (X : Stand p l e R s m args below meth c T locs cells slots) (hx : p.tables.exec = Jvm.exec) (hlk : meth.locks = false) (hret : meth.sig.returnType = some .int) {pc : Nat} {Ls : Array Slot} {z : Int32} {rest : List Value} (hd : decode c.code pc = .ok (.ireturn, 1)) (hC : cells ≤ C) (hS : slots ≤ S) (hQ : Q (some (.int z)) T.heap locs) :
    OwnWp p e below s C S Q (T.setTop (mkF m pc Ls (.int z :: rest))) := by
  obtain ⟨fs, hr, hrun, hended, hW, hsame⟩ := X.leave (v := some (.int z)) (fun h => by rw [hret] at h; cases h) hlk
  exact ⟨_, _, retOut X hx hret rfl (Or.inl ⟨rfl, Or.inl rfl, z, rfl⟩) hd hr, hrun, hended, _, _, rfl, hQ, ⟨_, rfl⟩, hW, hsame.mono hC hS⟩
theorem OwnWp.retJ (X : Stand p l e R s m args below meth c T locs cells slots) (hx : p.tables.exec = Jvm.exec) (hlk : meth.locks = false) (hret : meth.sig.returnType = some .long) {pc : Nat} {Ls : Array Slot} {z : Int64} {rest : List Value} (hd : decode c.code pc = .ok (.lreturn, 1)) (hC : cells ≤ C) (hS : slots ≤ S) (hQ : Q (some (.long z)) T.heap locs) :
    OwnWp p e below s C S Q (T.setTop (mkF m pc Ls (.long z :: rest))) := by
  obtain ⟨fs, hr, hrun, hended, hW, hsame⟩ := X.leave (v := some (.long z)) (fun h => by rw [hret] at h; cases h) hlk
  exact ⟨_, _, retOut X hx hret rfl (Or.inr (Or.inl ⟨rfl, rfl, z, rfl⟩)) hd hr, hrun, hended, _, _, rfl, hQ, ⟨_, rfl⟩, hW, hsame.mono hC hS⟩
theorem OwnWp.retA (X : Stand p l e R s m args below meth c T locs cells slots) (hx : p.tables.exec = Jvm.exec) (hlk : meth.locks = false) {t : FieldType} (hret : meth.sig.returnType = some t) (ht : t.isReference = true) {pc : Nat} {Ls : Array Slot} {z : Addr} {rest : List Value} (hn : narrow t (.ref z) = .ref z) (hd : decode c.code pc = .ok (.areturn, 1)) (hC : cells ≤ C) (hS : slots ≤ S) (hQ : Q (some (.ref z)) T.heap locs) :
    OwnWp p e below s C S Q (T.setTop (mkF m pc Ls (.ref z :: rest))) := by
  obtain ⟨fs, hr, hrun, hended, hW, hsame⟩ := X.leave (v := some (.ref z)) (fun h => by rw [hret] at h; cases h) hlk
  exact ⟨_, _, retOut X hx hret hn (Or.inr (Or.inr (Or.inr (Or.inr ⟨rfl, ht, rfl⟩)))) hd hr, hrun, hended, _, _, rfl, hQ, ⟨_, rfl⟩, hW, hsame.mono hC hS⟩
theorem OwnWp.retZ (X : Stand p l e R s m args below meth c T locs cells slots) (hx : p.tables.exec = Jvm.exec) (hlk : meth.locks = false) (hret : meth.sig.returnType = some .boolean) {pc : Nat} {Ls : Array Slot} {z : Int32} {rest : List Value} (hd : decode c.code pc = .ok (.ireturn, 1)) (hC : cells ≤ C) (hS : slots ≤ S) (hz : z = 0 ∨ z = 1) (hQ : Q (some (.int z)) T.heap locs) :
    OwnWp p e below s C S Q (T.setTop (mkF m pc Ls (.int z :: rest))) := by
  have hn : nar .boolean z = z := by rcases hz with rfl | rfl <;> rfl
  obtain ⟨fs, hr, hrun, hended, hW, hsame⟩ := X.leave (v := some (.int (nar .boolean z))) (fun h => by rw [hret] at h; cases h) hlk
  exact ⟨_, _, retN X hx hret (Or.inl rfl) hd hr, hrun, hended, _, _, rfl, by rw [hn]; exact hQ, ⟨_, rfl⟩, hW, hsame.mono hC hS⟩
theorem OwnWp.retV (X : Stand p l e R s m args below meth c T locs cells slots) (hx : p.tables.exec = Jvm.exec) (hlk : meth.locks = false) (hret : meth.sig.returnType = none) {pc : Nat} {Ls : Array Slot} (hd : decode c.code pc = .ok (.return_, 1)) (hC : cells ≤ C) (hS : slots ≤ S) (hQ : Q none T.heap locs) :
    OwnWp p e below s C S Q (T.setTop (mkF m pc Ls [])) := by
  obtain ⟨fs, hr, hrun, hended, hW, hsame⟩ := X.leave (v := none) (fun _ => rfl) hlk
  exact ⟨_, _, X.returnOut hx hret hd hr, hrun, hended, _, _, rfl, hQ, ⟨_, rfl⟩, hW, hsame.mono hC hS⟩
theorem own_widen {cells' slots' : Nat} (X : Stand p l e R s m args below meth c T locs cells slots) (h1 : cells ≤ cells') (h2 : slots ≤ slots') : Stand p l e R s m args below meth c T locs cells' slots' := { X with same := X.same.mono h1 h2 }
theorem own_lrem {g : JFrame} {target : State} (X : Stand p l e R s m args below meth c T locs cells slots) (hx : p.tables.exec = Jvm.exec) (hg : g.method = m) {x y : Int64} {rest : List Value} (hd : decode c.code g.pc = .ok (.lrem, 1)) (hs : g.stack = .long y :: .long x :: rest) (hy : y ≠ 0)
    (hr : Steps p.tables e below (T.setTop { g with pc := g.pc + 1, stack := .long (x % y) :: rest }) target) : Steps p.tables e below (T.setTop g) target :=
  XT.lrem X.here hx hg hd hs hy (by rw [lrem_mod]; exact hr)
/-- an array: its kind, its length, what place i holds -/
def OwnA (Z : State) (h : Heap) (a : Addr) (ty : FieldType) (n : Int32) (f : Int → Value) : Prop :=
  ∃ cl : Cell, Arr Z h a cl ty ∧ (cl.slots.size : Int) = n.toInt ∧ ∀ i : Int, 0 ≤ i → i < n.toInt → cl.slots[i.toNat]? = some (f i)
def ownUpd {α : Type} (f : Int → α) (j : Int) (x : α) : Int → α := fun i => if i = j then x else f i
theorem ownUpd_same {α : Type} (f : Int → α) (j : Int) (x : α) : ownUpd f j x j = x := if_pos rfl
theorem ownUpd_ne {α : Type} (f : Int → α) (j : Int) (x : α) {i : Int} (q : i ≠ j) : ownUpd f j x i = f i := if_neg q
theorem ownUpd_int (f : Int → Int32) (j : Int) (x : Int32) (i : Int) : ownUpd (fun i => Value.int (f i)) j (Value.int x) i = Value.int (ownUpd f j x i) := by unfold ownUpd; split <;> rfl
theorem ownUpd_long (f : Int → Int64) (j : Int) (x : Int64) (i : Int) : ownUpd (fun i => Value.long (f i)) j (Value.long x) i = Value.long (ownUpd f j x i) := by unfold ownUpd; split <;> rfl
variable {ty : FieldType} {n : Int32} {f : Int → Value} {ws : List Addr}
theorem OwnA.lt (F : OwnA Z h a ty n f) : a < h.size := by obtain ⟨_, A, -⟩ := F; exact A.lt
theorem OwnA.ext (F : OwnA Z h a ty n f) (E : Ext h h') : OwnA Z h' a ty n f := by obtain ⟨cl, A, r⟩ := F; exact ⟨cl, A.ext E, r⟩
theorem OwnA.keep (F : OwnA Z h a ty n f) (K : Keep h h' ws) (q : a ∉ ws) : OwnA Z h' a ty n f := by obtain ⟨cl, A, r⟩ := F; exact ⟨cl, ⟨K.2.1 a cl A.1 q, A.2⟩, r⟩
theorem OwnA.other {sl : Nat} {v : Value} (F : OwnA Z h b ty n f) (W : Wr h h' a sl v) (q : b ≠ a) : OwnA Z h' b ty n f := by obtain ⟨cl, A, r⟩ := F; exact ⟨cl, A.other W q, r⟩
theorem OwnA.len (F : OwnA Z h a ty n f) : 0 ≤ n.toInt := by obtain ⟨cl, _, r, _⟩ := F; omega
theorem OwnA.congr {f' : Int → Value} (F : OwnA Z h a ty n f) (q : ∀ i, 0 ≤ i → i < n.toInt → f i = f' i) : OwnA Z h a ty n f' := by obtain ⟨cl, A, r1, r2⟩ := F; exact ⟨cl, A, r1, fun i h1 h2 => by rw [← q i h1 h2]; exact r2 i h1 h2⟩
theorem own_clamp (j : Int32) : j.toNatClampNeg = j.toInt.toNat := rfl
theorem own_in {cl : Cell} {j : Int32} (r : (cl.slots.size : Int) = n.toInt) (h1 : 0 ≤ j.toInt) (h2 : j.toInt < n.toInt) : ¬ (j < 0 ∨ cl.slots.size ≤ j.toNatClampNeg) := by
  rw [own_clamp, Int32.lt_iff_toInt_lt, Int32.toInt_zero]; omega
theorem OwnA.new {k : ClassId} {z : Int32} (A : Arr Z h a (newA k ty z) ty) (q : 0 ≤ z.toInt) : OwnA Z h a ty z (fun _ => defaultValue ty) := by
  refine ⟨_, A, ?_, fun i h1 h2 => ?_⟩
  · rw [sz_new, own_clamp]; omega
  · have hi : i.toNat < z.toNatClampNeg := by rw [own_clamp]; omega
    show (Array.replicate z.toNatClampNeg (defaultValue ty))[i.toNat]? = _
    rw [Array.getElem?_replicate, if_pos hi]
theorem OwnA.set {j : Int32} {v : Value} (F : OwnA Z h a ty n f) (h1 : 0 ≤ j.toInt) (h2 : j.toInt < n.toInt) (W : Wr h h' a j.toNatClampNeg v) : OwnA Z h' a ty n (ownUpd f j.toInt v) := by
  obtain ⟨cl, A, r1, r2⟩ := F
  refine ⟨_, A.same W, by rw [sz_set]; exact r1, fun i g1 g2 => ?_⟩
  by_cases q : i = j.toInt
  · subst q
    rw [ownUpd_same]
    have hi : j.toNatClampNeg < cl.slots.size := by rw [own_clamp]; omega
    exact Array.getElem?_setIfInBounds_self_of_lt hi
  · rw [ownUpd_ne _ _ _ q, ← r2 i g1 g2, own_clamp]
    exact Array.getElem?_setIfInBounds_ne (by omega)
variable {g : JFrame} {target : State} {rest : List Value} {j : Int32}
theorem OwnA.alen (X : Stand p l e R s m args below meth c T locs cells slots) (hx : p.tables.exec = Jvm.exec) (hZ : Z.Warmed39 s.vm) (eT : T.heap = h) (F : OwnA Z h a ty n f) (hg : g.method = m) (hs : g.stack = .ref a :: rest) (hd : decode c.code g.pc = .ok (.arraylength, 1))
    (hr : Steps p.tables e below (T.setTop { g with pc := g.pc + 1, stack := .int n :: rest }) target) : Steps p.tables e below (T.setTop g) target := by
  obtain ⟨cl, A, r1, r2⟩ := F
  subst eT
  refine X.arraylength hx A.1 (State.isArrayOf_alike hZ.alike A.2.1) hg hs hd target ?_
  have q : cl.slots.size.toInt32 = n := by
    have q0 : cl.slots.size = n.toNatClampNeg := by rw [own_clamp]; omega
    exact len_of q0 (by rw [Int32.lt_iff_toInt_lt, Int32.toInt_zero]; omega)
  rw [q]; exact hr
theorem OwnA.ldI (X : Stand p l e R s m args below meth c T locs cells slots) (hx : p.tables.exec = Jvm.exec) (hZ : Z.Warmed39 s.vm) (eT : T.heap = h) (F : OwnA Z h a .int n f) (h1 : 0 ≤ j.toInt) (h2 : j.toInt < n.toInt) (hg : g.method = m) (hs : g.stack = .int j :: .ref a :: rest) (hd : decode c.code g.pc = .ok (.iaload, 1))
    (hr : Steps p.tables e below (T.setTop { g with pc := g.pc + 1, stack := f j.toInt :: rest }) target) : Steps p.tables e below (T.setTop g) target := by
  obtain ⟨cl, A, r1, r2⟩ := F
  subst eT
  exact X.iaload hx A.1 (State.isArrayOf_alike hZ.alike A.2.1) A.2.2 (own_in r1 h1 h2) (r2 _ h1 h2) hg hs hd target hr
theorem OwnA.ldJ (X : Stand p l e R s m args below meth c T locs cells slots) (hx : p.tables.exec = Jvm.exec) (hZ : Z.Warmed39 s.vm) (eT : T.heap = h) (F : OwnA Z h a .long n f) (h1 : 0 ≤ j.toInt) (h2 : j.toInt < n.toInt) (hg : g.method = m) (hs : g.stack = .int j :: .ref a :: rest) (hd : decode c.code g.pc = .ok (.laload, 1))
    (hr : Steps p.tables e below (T.setTop { g with pc := g.pc + 1, stack := f j.toInt :: rest }) target) : Steps p.tables e below (T.setTop g) target := by
  obtain ⟨cl, A, r1, r2⟩ := F
  subst eT
  exact X.laload hx A.1 (State.isArrayOf_alike hZ.alike A.2.1) A.2.2 (own_in r1 h1 h2) (r2 _ h1 h2) hg hs hd target hr
theorem OwnA.ldC (X : Stand p l e R s m args below meth c T locs cells slots) (hx : p.tables.exec = Jvm.exec) (hZ : Z.Warmed39 s.vm) (eT : T.heap = h) (F : OwnA Z h a .char n f) (h1 : 0 ≤ j.toInt) (h2 : j.toInt < n.toInt) (hg : g.method = m) (hs : g.stack = .int j :: .ref a :: rest) (hd : decode c.code g.pc = .ok (.caload, 1))
    (hr : Steps p.tables e below (T.setTop { g with pc := g.pc + 1, stack := f j.toInt :: rest }) target) : Steps p.tables e below (T.setTop g) target := by
  obtain ⟨cl, A, r1, r2⟩ := F
  subst eT
  exact X.caload hx A.1 (State.isArrayOf_alike hZ.alike A.2.1) A.2.2 (own_in r1 h1 h2) (r2 _ h1 h2) hg hs hd target hr
theorem OwnA.ldB (X : Stand p l e R s m args below meth c T locs cells slots) (hx : p.tables.exec = Jvm.exec) (hZ : Z.Warmed39 s.vm) (eT : T.heap = h) (F : OwnA Z h a .byte n f) (h1 : 0 ≤ j.toInt) (h2 : j.toInt < n.toInt) (hg : g.method = m) (hs : g.stack = .int j :: .ref a :: rest) (hd : decode c.code g.pc = .ok (.baload, 1))
    (hr : Steps p.tables e below (T.setTop { g with pc := g.pc + 1, stack := f j.toInt :: rest }) target) : Steps p.tables e below (T.setTop g) target := by
  obtain ⟨cl, A, r1, r2⟩ := F
  subst eT
  exact X.baloadBytes hx A.1 (State.isArrayOf_alike hZ.alike A.2.1) A.2.2 (own_in r1 h1 h2) (r2 _ h1 h2) hg hs hd target hr
theorem OwnA.ldZ (X : Stand p l e R s m args below meth c T locs cells slots) (hx : p.tables.exec = Jvm.exec) (hZ : Z.Warmed39 s.vm) (eT : T.heap = h) (F : OwnA Z h a .boolean n f) (h1 : 0 ≤ j.toInt) (h2 : j.toInt < n.toInt) (hg : g.method = m) (hs : g.stack = .int j :: .ref a :: rest) (hd : decode c.code g.pc = .ok (.baload, 1))
    (hr : Steps p.tables e below (T.setTop { g with pc := g.pc + 1, stack := f j.toInt :: rest }) target) : Steps p.tables e below (T.setTop g) target := by
  obtain ⟨cl, A, r1, r2⟩ := F
  subst eT
  exact X.baloadBooleans hx A.1 (State.isArrayOf_alike hZ.alike A.2.1) A.2.2 (own_in r1 h1 h2) (r2 _ h1 h2) hg hs hd target hr
theorem own_frs {k : Nat} {sl : Nat} (N : Fr k locs) (q : k ≤ a) : Fr k (locs ++ [⟨a, sl⟩]) := N.app fun y hy => by cases List.mem_singleton.mp hy; exact q
theorem OwnA.stI {n0 : Nat} {x : Int32} (X : Stand p l e R s m args below meth c T locs cells slots) (hx : p.tables.exec = Jvm.exec) (hZ : Z.Warmed39 s.vm) (eT : T.heap = h) (N : Fr n0 locs) (q : n0 ≤ a) (F : OwnA Z h a .int n f) (h1 : 0 ≤ j.toInt) (h2 : j.toInt < n.toInt) (hg : g.method = m) (hs : g.stack = .int x :: .int j :: .ref a :: rest) (hd : decode c.code g.pc = .ok (.iastore, 1)) :
    ∃ T' h' L', Stand p l e R s m args below meth c T' L' cells slots ∧ T'.heap = h' ∧ Fr n0 L' ∧ Keep h h' [a] ∧ OwnA Z h' a .int n (ownUpd f j.toInt (.int x)) ∧ ∀ target, Steps p.tables e below (T'.setTop { g with pc := g.pc + 1, stack := rest }) target → Steps p.tables e below (T.setTop g) target := by
  obtain ⟨cl, A, r1, r2⟩ := id F
  obtain ⟨T', h', X', e', W, st⟩ := RoadKit.stI X hx hZ eT A (own_in r1 h1 h2) hg hs hd
  exact ⟨T', h', _, X', e', own_frs N q, Keep.of_wr W, F.set h1 h2 W, st⟩
theorem OwnA.stJ {n0 : Nat} {x : Int64} (X : Stand p l e R s m args below meth c T locs cells slots) (hx : p.tables.exec = Jvm.exec) (hZ : Z.Warmed39 s.vm) (eT : T.heap = h) (N : Fr n0 locs) (q : n0 ≤ a) (F : OwnA Z h a .long n f) (h1 : 0 ≤ j.toInt) (h2 : j.toInt < n.toInt) (hg : g.method = m) (hs : g.stack = .long x :: .int j :: .ref a :: rest) (hd : decode c.code g.pc = .ok (.lastore, 1)) :
    ∃ T' h' L', Stand p l e R s m args below meth c T' L' cells slots ∧ T'.heap = h' ∧ Fr n0 L' ∧ Keep h h' [a] ∧ OwnA Z h' a .long n (ownUpd f j.toInt (.long x)) ∧ ∀ target, Steps p.tables e below (T'.setTop { g with pc := g.pc + 1, stack := rest }) target → Steps p.tables e below (T.setTop g) target := by
  obtain ⟨cl, A, r1, r2⟩ := id F
  obtain ⟨T', h', X', e', W, st⟩ := RoadKit.stJ X hx hZ eT A (own_in r1 h1 h2) hg hs hd
  exact ⟨T', h', _, X', e', own_frs N q, Keep.of_wr W, F.set h1 h2 W, st⟩
theorem OwnA.stC {n0 : Nat} {x : Int32} (X : Stand p l e R s m args below meth c T locs cells slots) (hx : p.tables.exec = Jvm.exec) (hZ : Z.Warmed39 s.vm) (eT : T.heap = h) (N : Fr n0 locs) (q : n0 ≤ a) (F : OwnA Z h a .char n f) (h1 : 0 ≤ j.toInt) (h2 : j.toInt < n.toInt) (hg : g.method = m) (hs : g.stack = .int x :: .int j :: .ref a :: rest) (hd : decode c.code g.pc = .ok (.castore, 1)) :
    ∃ T' h' L', Stand p l e R s m args below meth c T' L' cells slots ∧ T'.heap = h' ∧ Fr n0 L' ∧ Keep h h' [a] ∧ OwnA Z h' a .char n (ownUpd f j.toInt (.int (nar .char x))) ∧ ∀ target, Steps p.tables e below (T'.setTop { g with pc := g.pc + 1, stack := rest }) target → Steps p.tables e below (T.setTop g) target := by
  obtain ⟨cl, A, r1, r2⟩ := id F
  obtain ⟨T', h', X', e', W, st⟩ := RoadKit.stC X hx hZ eT A (own_in r1 h1 h2) hg hs hd
  exact ⟨T', h', _, X', e', own_frs N q, Keep.of_wr W, F.set h1 h2 W, st⟩
theorem OwnA.stB {n0 : Nat} {x : Int32} (X : Stand p l e R s m args below meth c T locs cells slots) (hx : p.tables.exec = Jvm.exec) (hZ : Z.Warmed39 s.vm) (eT : T.heap = h) (N : Fr n0 locs) (q : n0 ≤ a) (F : OwnA Z h a .byte n f) (h1 : 0 ≤ j.toInt) (h2 : j.toInt < n.toInt) (hg : g.method = m) (hs : g.stack = .int x :: .int j :: .ref a :: rest) (hd : decode c.code g.pc = .ok (.bastore, 1)) :
    ∃ T' h' L', Stand p l e R s m args below meth c T' L' cells slots ∧ T'.heap = h' ∧ Fr n0 L' ∧ Keep h h' [a] ∧ OwnA Z h' a .byte n (ownUpd f j.toInt (.int (nar .byte x))) ∧ ∀ target, Steps p.tables e below (T'.setTop { g with pc := g.pc + 1, stack := rest }) target → Steps p.tables e below (T.setTop g) target := by
  obtain ⟨cl, A, r1, r2⟩ := id F
  obtain ⟨T', h', X', e', W, st⟩ := RoadKit.stB X hx hZ eT A (own_in r1 h1 h2) hg hs hd
  exact ⟨T', h', _, X', e', own_frs N q, Keep.of_wr W, F.set h1 h2 W, st⟩
theorem OwnA.stZ {n0 : Nat} {x : Int32} (X : Stand p l e R s m args below meth c T locs cells slots) (hx : p.tables.exec = Jvm.exec) (hZ : Z.Warmed39 s.vm) (eT : T.heap = h) (N : Fr n0 locs) (q : n0 ≤ a) (F : OwnA Z h a .boolean n f) (h1 : 0 ≤ j.toInt) (h2 : j.toInt < n.toInt) (hg : g.method = m) (hs : g.stack = .int x :: .int j :: .ref a :: rest) (hd : decode c.code g.pc = .ok (.bastore, 1)) :
    ∃ T' h' L', Stand p l e R s m args below meth c T' L' cells slots ∧ T'.heap = h' ∧ Fr n0 L' ∧ Keep h h' [a] ∧ OwnA Z h' a .boolean n (ownUpd f j.toInt (.int (nar .boolean x))) ∧ ∀ target, Steps p.tables e below (T'.setTop { g with pc := g.pc + 1, stack := rest }) target → Steps p.tables e below (T.setTop g) target := by
  obtain ⟨cl, A, r1, r2⟩ := id F
  obtain ⟨T', h', X', e', W, st⟩ := RoadKit.stZ X hx hZ eT A (own_in r1 h1 h2) hg hs hd
  exact ⟨T', h', _, X', e', own_frs N q, Keep.of_wr W, F.set h1 h2 W, st⟩
end OwnKit
theorem own_ofi {n : Int} (h1 : -2147483648 ≤ n) (h2 : n < 2147483648) : (Int32.ofInt n).toInt = n := by
  rw [Int32.toInt_ofInt, show Int32.size = 4294967296 from rfl, Int.bmod_eq_of_le (by omega) (by omega)]
theorem own_ofj {n : Int} (h1 : -9223372036854775808 ≤ n) (h2 : n < 9223372036854775808) : (Int64.ofInt n).toInt = n := by
  rw [Int64.toInt_ofInt, show Int64.size = 18446744073709551616 from rfl, Int.bmod_eq_of_le (by omega) (by omega)]
/-- an int between 0 and n is one of finitely many -/
theorem own_fin {x : Int32} {n : Nat} (h1 : 0 ≤ x.toInt) (h2 : x.toInt < n) : ∃ k : Fin n, x = Int32.ofInt (k.1 : Int) := by
  have h3 := x.toInt_lt
  refine ⟨⟨x.toInt.toNat, by omega⟩, Int32.toInt_inj.mp ?_⟩
  show _ = (Int32.ofInt ((x.toInt.toNat : Nat) : Int)).toInt
  rw [own_ofi (by omega) (by omega)]; omega
def own_neg (x : Int64) : Int64 := if x < (0 : Int64) then x else -x
def own_dig (x : Int64) (d : Int32) : Prop := 1 ≤ d.toInt ∧ d.toInt ≤ 19 ∧ (d.toInt = 1 ∨ (own_neg x).toInt ≤ -(10 ^ (d.toInt - 1).toNat)) ∧ (d.toInt = 19 ∨ -(10 ^ d.toInt.toNat) < (own_neg x).toInt)
def own_p (i : Int) : Int64 := Int64.ofInt (10 ^ i.toNat)
theorem own_powle (n : Nat) (h : n ≤ 18) : (10 : Int) ^ n ≤ 1000000000000000000 := by
  have h1 : (10 : Nat) ^ n ≤ 10 ^ 18 := Nat.pow_le_pow_right (by decide) h
  have h2 : ((10 ^ n : Nat) : Int) = (10 : Int) ^ n := by push_cast; rfl
  rw [← h2]
  have h3 : (10 : Nat) ^ 18 = 1000000000000000000 := by decide
  omega
theorem own_powpos (n : Nat) : (1 : Int) ≤ (10 : Int) ^ n := by
  have h1 : 1 ≤ (10 : Nat) ^ n := Nat.le_trans Nat.one_le_two_pow (Nat.pow_le_pow_left (by decide) n)
  have h2 : ((10 ^ n : Nat) : Int) = (10 : Int) ^ n := by push_cast; rfl
  rw [← h2]; omega
theorem own_pI (i : Int) (h : i.toNat ≤ 18) : (own_p i).toInt = 10 ^ i.toNat := by
  have h1 := own_powle i.toNat h
  have h2 := own_powpos i.toNat
  unfold own_p
  exact own_ofj (by omega) (by omega)
theorem own_pN (i : Int) (h : i.toNat ≤ 18) : (-(own_p i)).toInt = -(10 ^ i.toNat) := by
  have h1 := own_pI i h
  have h2 := own_powle i.toNat h
  have h3 := own_powpos i.toNat
  have h4 := c_lneg (own_p i)
  have h5 := rng64 (-(own_p i))
  rw [h1] at h4
  omega
theorem own_turn (d : Int32) (bd ng : Int64) (k : Nat) (d2 : Int32) (b2 : Int64) (q1 : d2 = d + (1 : Int32)) (q2 : b2 = bd * (10 : Int64)) (hd0 : d.toInt + ((k + 1 : Nat) : Int) = 19) (hd1 : 1 ≤ d.toInt)
    (hb : bd.toInt = -(10 ^ d.toInt.toNat)) (hlt : d.toInt < 19) (hc : ¬ bd < ng) : d2.toInt + (k : Int) = 19 ∧ 1 ≤ d2.toInt ∧ (d2.toInt < 19 → b2.toInt = -(10 ^ d2.toInt.toNat)) ∧ (d2.toInt = 1 ∨ ng.toInt ≤ -(10 ^ (d2.toInt - 1).toNat)) := by
  have a1 := c_iadd d 1
  rw [← q1, show (1 : Int32).toInt = 1 from rfl] at a1
  have a2 := rng32 d2
  have a3 : d2.toInt = d.toInt + 1 := by omega
  refine ⟨by omega, by omega, fun h => ?_, Or.inr ?_⟩
  · have b1 := c_lmul bd 10
    rw [← q2, hb, show (10 : Int64).toInt = 10 from rfl] at b1
    have b3 := rng64 b2
    have b4 : d2.toInt.toNat = d.toInt.toNat + 1 := by omega
    have b5 := own_powle d2.toInt.toNat (by omega)
    have b6 := own_powpos d2.toInt.toNat
    rw [b4, Int.pow_succ] at b5 b6 ⊢
    omega
  · rw [Int64.lt_iff_toInt_lt, hb] at hc
    rw [show (d2.toInt - 1).toNat = d.toInt.toNat from by omega]
    omega
theorem own_idx (p v : Int32) (q : v = ((XT.ushr p (1 : Int32)) &&& (31 : Int32)) % (19 : Int32)) : 0 ≤ v.toInt ∧ v.toInt < (19 : Int32).toInt := by
  have a1 := c_mask (XT.ushr p 1) 31 5 (by decide) (by decide)
  have a2 := (c_irem ((XT.ushr p 1) &&& 31) 19 19 rfl).1 (by omega)
  rw [← q] at a2
  rw [show (19 : Int32).toInt = 19 from rfl]; omega
theorem own_dd (x0 : Int64) (dd : Int32) (hd : own_dig x0 dd) (w : Int32) (qw : w = (if x0 < (0 : Int64) then dd + (1 : Int32) else dd)) (v : Int32) (qv : v = (if x0 < (0 : Int64) then (w - (1 : Int32)) else w)) : v = dd ∧ ¬ v < (1 : Int32) ∧ ¬ (19 : Int32) < v := by
  have h : v = dd := by
    by_cases q : x0 < (0 : Int64)
    · rw [if_pos q] at qw qv
      rw [qv, qw, Int32.add_sub_cancel]
    · rw [if_neg q] at qw qv
      rw [qv, qw]
  obtain ⟨h1, h2, -⟩ := hd
  rw [h, Int32.lt_iff_toInt_lt, Int32.lt_iff_toInt_lt, show (1 : Int32).toInt = 1 from rfl, show (19 : Int32).toInt = 19 from rfl]
  exact ⟨rfl, by omega, by omega⟩
theorem own_dec (d : Int32) (h1 : 1 ≤ d.toInt) : (d - (1 : Int32)).toInt = d.toInt - 1 := by
  have a := c_isub d 1
  rw [show (1 : Int32).toInt = 1 from rfl] at a
  have b := rng32 (d - 1)
  have c := rng32 d
  omega
theorem own_ix1 {x0 : Int64} (v dd : Int32) (hv : v = dd) (hd : own_dig x0 dd) : 0 ≤ (v - (1 : Int32)).toInt ∧ (v - (1 : Int32)).toInt < (19 : Int32).toInt := by
  obtain ⟨h1, h2, -⟩ := hd
  rw [hv, own_dec dd h1, show (19 : Int32).toInt = 19 from rfl]; omega
theorem own_ix2 {x0 : Int64} (v dd : Int32) (hv : v = dd) (hd : own_dig x0 dd) (hn : ¬ v = (19 : Int32)) : 0 ≤ v.toInt ∧ v.toInt < (19 : Int32).toInt := by
  obtain ⟨h1, h2, -⟩ := hd
  rw [hv] at hn
  have h3 : dd.toInt ≠ 19 := fun h => hn (Int32.toInt_inj.mp h)
  rw [hv, show (19 : Int32).toInt = 19 from rfl]; omega

theorem d1_0 : decode prog_55_method_5_code 0 = .ok (.lload_n 0, 1) := by decide +kernel
theorem d1_1 : decode prog_55_method_5_code 1 = .ok (.lconst 0, 1) := by decide +kernel
theorem d1_2 : decode prog_55_method_5_code 2 = .ok (.lcmp, 1) := by decide +kernel
theorem d1_3 : decode prog_55_method_5_code 3 = .ok (.ifCond .ge 7, 3) := by decide +kernel
theorem d1_6 : decode prog_55_method_5_code 6 = .ok (.lload_n 0, 1) := by decide +kernel
theorem d1_7 : decode prog_55_method_5_code 7 = .ok (.goto 5, 3) := by decide +kernel
theorem d1_10 : decode prog_55_method_5_code 10 = .ok (.lload_n 0, 1) := by decide +kernel
theorem d1_11 : decode prog_55_method_5_code 11 = .ok (.lneg, 1) := by decide +kernel
theorem d1_12 : decode prog_55_method_5_code 12 = .ok (.lstore_n 2, 1) := by decide +kernel
theorem d1_13 : decode prog_55_method_5_code 13 = .ok (.iconst 1, 1) := by decide +kernel
theorem d1_14 : decode prog_55_method_5_code 14 = .ok (.istore 4, 2) := by decide +kernel
theorem d1_16 : decode prog_55_method_5_code 16 = .ok (.ldc2_w 50, 3) := by decide +kernel
theorem d1_19 : decode prog_55_method_5_code 19 = .ok (.lstore 5, 2) := by decide +kernel
theorem d1_21 : decode prog_55_method_5_code 21 = .ok (.iload 4, 2) := by decide +kernel
theorem d1_23 : decode prog_55_method_5_code 23 = .ok (.bipush 19, 2) := by decide +kernel
theorem d1_25 : decode prog_55_method_5_code 25 = .ok (.if_icmp .ge 24, 3) := by decide +kernel
theorem d1_28 : decode prog_55_method_5_code 28 = .ok (.lload_n 2, 1) := by decide +kernel
theorem d1_29 : decode prog_55_method_5_code 29 = .ok (.lload 5, 2) := by decide +kernel
theorem d1_31 : decode prog_55_method_5_code 31 = .ok (.lcmp, 1) := by decide +kernel
theorem d1_32 : decode prog_55_method_5_code 32 = .ok (.ifCond .gt 17, 3) := by decide +kernel
theorem d1_35 : decode prog_55_method_5_code 35 = .ok (.iinc 4 1, 3) := by decide +kernel
theorem d1_38 : decode prog_55_method_5_code 38 = .ok (.lload 5, 2) := by decide +kernel
theorem d1_40 : decode prog_55_method_5_code 40 = .ok (.ldc2_w 52, 3) := by decide +kernel
theorem d1_43 : decode prog_55_method_5_code 43 = .ok (.lmul, 1) := by decide +kernel
theorem d1_44 : decode prog_55_method_5_code 44 = .ok (.lstore 5, 2) := by decide +kernel
theorem d1_46 : decode prog_55_method_5_code 46 = .ok (.goto (-25), 3) := by decide +kernel
theorem d1_49 : decode prog_55_method_5_code 49 = .ok (.lload_n 0, 1) := by decide +kernel
theorem d1_50 : decode prog_55_method_5_code 50 = .ok (.lconst 0, 1) := by decide +kernel
theorem d1_51 : decode prog_55_method_5_code 51 = .ok (.lcmp, 1) := by decide +kernel
theorem d1_52 : decode prog_55_method_5_code 52 = .ok (.ifCond .ge 10, 3) := by decide +kernel
theorem d1_55 : decode prog_55_method_5_code 55 = .ok (.iload 4, 2) := by decide +kernel
theorem d1_57 : decode prog_55_method_5_code 57 = .ok (.iconst 1, 1) := by decide +kernel
theorem d1_58 : decode prog_55_method_5_code 58 = .ok (.iadd, 1) := by decide +kernel
theorem d1_59 : decode prog_55_method_5_code 59 = .ok (.goto 5, 3) := by decide +kernel
theorem d1_62 : decode prog_55_method_5_code 62 = .ok (.iload 4, 2) := by decide +kernel
theorem d1_64 : decode prog_55_method_5_code 64 = .ok (.ireturn, 1) := by decide +kernel
theorem pn_1 : plainFor (⟨"com/example/utu/utu/base/WholeNumbers", "length", "(J)I"⟩ : MethodName) = true := plainFor_of_name (by first | (simp [plainName, overriddenIn]; done) | decide +kernel)
theorem pd_1 : parseMethodDescriptor "(J)I" = some ⟨[.long], some .int⟩ := by decide +kernel
theorem ef_1 (m : MethodId) (x0 : Int64) : entryFrame m #[(.long x0)] 7 = mkF m 0 #[.val (.long x0), .second, .unset, .unset, .unset, .unset, .unset] [] := by first | (simp [entryFrame, mkF, argsToLocals, Value.category, maxLocals]; done) | rfl
def Q1 (Z : State) (p1 : Int64)  (h0 : Heap) (n0 : Nat) (v : Option Value) (h : Heap) (L : List Loc) : Prop := ∃ d : Int32, v = some (.int (if p1 < (0 : Int64) then d + (1 : Int32) else d)) ∧ Fr n0 L ∧ h = h0 ∧ own_dig p1 d
set_option maxRecDepth 65536 in
set_option maxHeartbeats 40000000 in
theorem rm1 (l : Launch) (Z : State) (a0 : Array Value) (hw : ∀ d ∈ tables_1, d.before a0 Z = true) (ws : List Jvm.Cond) (p1 : Int64)  (h0 : Heap) (n0 : Nat) (Z0 : n0 ≤ h0.size)  :
    MetFree l (⟨"com/example/utu/utu/base/WholeNumbers", "length", "(J)I"⟩ : MethodName) (head1 (Jvm.Cond.code (⟨"com/example/utu/utu/base/WholeNumbers", "length", "(J)I"⟩ : MethodName) prog_55_method_5_code 7 (some .int) :: ws) ({ frames := 0, cells := 0, slots := 0, locals := 0 } : Room)) (fun a U => a = #[(.long p1)] ∧ Z.Warmed39 U.vm ∧ U.heap = h0) (fun _ _ _ _ _ => True) (fun _ U oc U' => ∃ v L, oc = .returned v ∧ Q1 Z p1  h0 n0 v U'.heap L ∧ FrameEnd U oc U' L ({ frames := 0, cells := 0, slots := 0, locals := 0 } : Room).cells ({ frames := 0, cells := 0, slots := 0, locals := 0 } : Room).slots) := by
  refine MetFree.of_bodySF pn_1 hisR ?_
  intro p e s m args below meth c s₁ Bd hml0 hP hK
  obtain ⟨rfl, hZ, hh⟩ := hP
  have hx := Bd.exec
  have hby := Bd.bytes
  have hlk := BodyLoose.notSynchronized Bd
  have hml : c.maxLocals = 7 := hml0
  have hown : s.vm.findClass "com/example/utu/utu/base/WholeNumbers" = some m.cls := findClass_of_methodNamed Bd.named
  have hnm := (name_of_methodNamed Bd.named Bd.method).1
  have X0 : Stand p l e ({ frames := 0, cells := 0, slots := 0, locals := 0 } : Room) s m #[(.long p1)] below meth c s₁ [] 0 0 := Stand.of_body Bd
  have e0 : s₁.heap = h0 := by rw [← hh, Bd.state]; rfl
  have N0 := Fr.nil n0
  show OwnWp p e below s ({ frames := 0, cells := 0, slots := 0, locals := 0 } : Room).cells ({ frames := 0, cells := 0, slots := 0, locals := 0 } : Room).slots (Q1 Z p1  h0 n0) (s₁.setTop (entryFrame m #[(.long p1)] 7))
  refine OwnWp.cast (ef_1 m p1) ?_
  show OwnWp p e below s _ _ _ (s₁.setTop (mkF m 0 #[.val (.long p1), .second, .unset, .unset, .unset, .unset, .unset] []))
  refine OwnWp.step (U' := s₁.setTop (mkF m 3 #[.val (.long p1), .second, .unset, .unset, .unset, .unset, .unset] [(.int (XT.cmpL p1 (0 : Int64)))])) (fun t k => ?_) ?_
  · show Steps p.tables e below (s₁.setTop (mkF m 0 #[.val (.long p1), .second, .unset, .unset, .unset, .unset, .unset] [])) _
    refine XT.lloadN X0.here hx rfl (hb hby d1_0) rfl ?_
    show Steps p.tables e below (s₁.setTop (mkF m 1 #[.val (.long p1), .second, .unset, .unset, .unset, .unset, .unset] [(.long p1)])) _
    refine XT.lconstV X0.here hx rfl (0 : Int64) (hb hby d1_1) rfl ?_
    show Steps p.tables e below (s₁.setTop (mkF m 2 #[.val (.long p1), .second, .unset, .unset, .unset, .unset, .unset] [(.long (0 : Int64)), (.long p1)])) _
    refine XT.lcmp X0.here hx rfl (hb hby d1_2) rfl ?_
    show Steps p.tables e below (s₁.setTop (mkF m 3 #[.val (.long p1), .second, .unset, .unset, .unset, .unset, .unset] [(.int (XT.cmpL p1 (0 : Int64)))])) _
    exact k
  obtain ⟨w1, qw1⟩ : ∃ z : Int64, z = (if p1 < (0 : Int64) then p1 else (-p1)) := ⟨_, rfl⟩
  refine OwnWp.step (U' := s₁.setTop (mkF m 12 #[.val (.long p1), .second, .unset, .unset, .unset, .unset, .unset] [(.long w1)])) (fun t k => ?_) ?_
  · show Steps p.tables e below (s₁.setTop (mkF m 3 #[.val (.long p1), .second, .unset, .unset, .unset, .unset, .unset] [(.int (XT.cmpL p1 (0 : Int64)))])) _
    by_cases c3_1 : p1 < (0 : Int64)
    · refine XS.ifNo X0.here hx rfl (hb hby d1_3) rfl (XT.ll_ge_f c3_1) ?_
      show Steps p.tables e below (s₁.setTop (mkF m 6 #[.val (.long p1), .second, .unset, .unset, .unset, .unset, .unset] [])) _
      refine XT.lloadN X0.here hx rfl (hb hby d1_6) rfl ?_
      show Steps p.tables e below (s₁.setTop (mkF m 7 #[.val (.long p1), .second, .unset, .unset, .unset, .unset, .unset] [(.long p1)])) _
      refine XS.goto X0.here hx rfl (pc0 := 7) (pc' := 12) rfl (hb hby d1_7) (by decide) (by decide) ?_
      show Steps p.tables e below (s₁.setTop (mkF m 12 #[.val (.long p1), .second, .unset, .unset, .unset, .unset, .unset] [(.long p1)])) _
      rw [show w1 = p1 from by rw [qw1, if_pos c3_1]] at k
      exact k
    · refine XS.ifYes X0.here hx rfl (pc0 := 3) (pc' := 10) rfl (hb hby d1_3) rfl (XT.ll_ge_t c3_1) (by decide) (by decide) ?_
      show Steps p.tables e below (s₁.setTop (mkF m 10 #[.val (.long p1), .second, .unset, .unset, .unset, .unset, .unset] [])) _
      refine XT.lloadN X0.here hx rfl (hb hby d1_10) rfl ?_
      show Steps p.tables e below (s₁.setTop (mkF m 11 #[.val (.long p1), .second, .unset, .unset, .unset, .unset, .unset] [(.long p1)])) _
      refine XT.lneg X0.here hx rfl (hb hby d1_11) rfl ?_
      show Steps p.tables e below (s₁.setTop (mkF m 12 #[.val (.long p1), .second, .unset, .unset, .unset, .unset, .unset] [(.long (-p1))])) _
      rw [show w1 = (-p1) from by rw [qw1, if_neg c3_1]] at k
      exact k
  refine OwnWp.step (U' := s₁.setTop (mkF m 21 #[.val (.long p1), .second, .val (.long w1), .second, .val (.int (1 : Int32)), .val (.long ((-10) : Int64)), .second] [])) (fun t k => ?_) ?_
  · show Steps p.tables e below (s₁.setTop (mkF m 12 #[.val (.long p1), .second, .unset, .unset, .unset, .unset, .unset] [(.long w1)])) _
    refine XT.lstoreN X0.here hx rfl (hb hby d1_12) rfl (l' := #[.val (.long p1), .second, .val (.long w1), .second, .unset, .unset, .unset]) rfl ?_
    show Steps p.tables e below (s₁.setTop (mkF m 13 #[.val (.long p1), .second, .val (.long w1), .second, .unset, .unset, .unset] [])) _
    refine XT.iconstV X0.here hx rfl (1 : Int32) (hb hby d1_13) rfl ?_
    show Steps p.tables e below (s₁.setTop (mkF m 14 #[.val (.long p1), .second, .val (.long w1), .second, .unset, .unset, .unset] [(.int (1 : Int32))])) _
    refine XS.istore X0.here hx rfl (hb hby d1_14) rfl (l' := #[.val (.long p1), .second, .val (.long w1), .second, .val (.int (1 : Int32)), .unset, .unset]) rfl ?_
    show Steps p.tables e below (s₁.setTop (mkF m 16 #[.val (.long p1), .second, .val (.long w1), .second, .val (.int (1 : Int32)), .unset, .unset] [])) _
    refine X0.ldc2J hx hown (mvT hZ (hw _ (List.mem_of_getElem? (i := 23) rfl))) rfl (hb hby d1_16) ?_
    show Steps p.tables e below (s₁.setTop (mkF m 19 #[.val (.long p1), .second, .val (.long w1), .second, .val (.int (1 : Int32)), .unset, .unset] [(.long ((-10) : Int64))])) _
    refine XT.lstore X0.here hx rfl (hb hby d1_19) rfl (l' := #[.val (.long p1), .second, .val (.long w1), .second, .val (.int (1 : Int32)), .val (.long ((-10) : Int64)), .second]) rfl ?_
    show Steps p.tables e below (s₁.setTop (mkF m 21 #[.val (.long p1), .second, .val (.long w1), .second, .val (.int (1 : Int32)), .val (.long ((-10) : Int64)), .second] [])) _
    exact k
  have hloop : ∀ (k : Nat) (d : Int32) (bd : Int64), d.toInt + k = 19 → 1 ≤ d.toInt → (d.toInt < 19 → bd.toInt = -(10 ^ d.toInt.toNat)) → (d.toInt = 1 ∨ w1.toInt ≤ -(10 ^ (d.toInt - 1).toNat)) → OwnWp p e below s ({ frames := 0, cells := 0, slots := 0, locals := 0 } : Room).cells ({ frames := 0, cells := 0, slots := 0, locals := 0 } : Room).slots (Q1 Z p1  h0 n0) (s₁.setTop (mkF m 21 #[.val (.long p1), .second, .val (.long w1), .second, .val (.int d), .val (.long bd), .second] [])) := by
    intro k
    induction k with
    | zero =>
      intro d bd hd0 hd1 hd2 hd3
      refine OwnWp.step (U' := s₁.setTop (mkF m 25 #[.val (.long p1), .second, .val (.long w1), .second, .val (.int d), .val (.long bd), .second] [(.int (19 : Int32)), (.int d)])) (fun t k => ?_) ?_
      · show Steps p.tables e below (s₁.setTop (mkF m 21 #[.val (.long p1), .second, .val (.long w1), .second, .val (.int d), .val (.long bd), .second] [])) _
        refine XS.iload X0.here hx rfl (hb hby d1_21) rfl ?_
        show Steps p.tables e below (s₁.setTop (mkF m 23 #[.val (.long p1), .second, .val (.long w1), .second, .val (.int d), .val (.long bd), .second] [(.int d)])) _
        refine XT.bipushV X0.here hx rfl (19 : Int32) (hb hby d1_23) rfl ?_
        show Steps p.tables e below (s₁.setTop (mkF m 25 #[.val (.long p1), .second, .val (.long w1), .second, .val (.int d), .val (.long bd), .second] [(.int (19 : Int32)), (.int d)])) _
        exact k
      by_cases c25_2 : d < (19 : Int32)
      · refine OwnWp.step (U' := s₁.setTop (mkF m 28 #[.val (.long p1), .second, .val (.long w1), .second, .val (.int d), .val (.long bd), .second] [])) (fun t k => ?_) ?_
        · show Steps p.tables e below (s₁.setTop (mkF m 25 #[.val (.long p1), .second, .val (.long w1), .second, .val (.int d), .val (.long bd), .second] [(.int (19 : Int32)), (.int d)])) _
          refine XS.icmpNo X0.here hx rfl (hb hby d1_25) rfl (XT.ii_ge_f c25_2) ?_
          exact k
        have hlt : d.toInt < 19 := Int32.lt_iff_toInt_lt.mp c25_2
        exact absurd hd0 (by omega)
      · refine OwnWp.step (U' := s₁.setTop (mkF m 49 #[.val (.long p1), .second, .val (.long w1), .second, .val (.int d), .val (.long bd), .second] [])) (fun t k => ?_) ?_
        · show Steps p.tables e below (s₁.setTop (mkF m 25 #[.val (.long p1), .second, .val (.long w1), .second, .val (.int d), .val (.long bd), .second] [(.int (19 : Int32)), (.int d)])) _
          refine XS.icmpYes X0.here hx rfl (pc0 := 25) (pc' := 49) rfl (hb hby d1_25) rfl (XT.ii_ge_t c25_2) (by decide) (by decide) ?_
          exact k
        refine OwnWp.step (U' := s₁.setTop (mkF m 52 #[.val (.long p1), .second, .val (.long w1), .second, .val (.int d), .val (.long bd), .second] [(.int (XT.cmpL p1 (0 : Int64)))])) (fun t k => ?_) ?_
        · show Steps p.tables e below (s₁.setTop (mkF m 49 #[.val (.long p1), .second, .val (.long w1), .second, .val (.int d), .val (.long bd), .second] [])) _
          refine XT.lloadN X0.here hx rfl (hb hby d1_49) rfl ?_
          show Steps p.tables e below (s₁.setTop (mkF m 50 #[.val (.long p1), .second, .val (.long w1), .second, .val (.int d), .val (.long bd), .second] [(.long p1)])) _
          refine XT.lconstV X0.here hx rfl (0 : Int64) (hb hby d1_50) rfl ?_
          show Steps p.tables e below (s₁.setTop (mkF m 51 #[.val (.long p1), .second, .val (.long w1), .second, .val (.int d), .val (.long bd), .second] [(.long (0 : Int64)), (.long p1)])) _
          refine XT.lcmp X0.here hx rfl (hb hby d1_51) rfl ?_
          show Steps p.tables e below (s₁.setTop (mkF m 52 #[.val (.long p1), .second, .val (.long w1), .second, .val (.int d), .val (.long bd), .second] [(.int (XT.cmpL p1 (0 : Int64)))])) _
          exact k
        obtain ⟨w2, qw2⟩ : ∃ z : Int32, z = (if p1 < (0 : Int64) then (d + (1 : Int32)) else d) := ⟨_, rfl⟩
        refine OwnWp.step (U' := s₁.setTop (mkF m 64 #[.val (.long p1), .second, .val (.long w1), .second, .val (.int d), .val (.long bd), .second] [(.int w2)])) (fun t k => ?_) ?_
        · show Steps p.tables e below (s₁.setTop (mkF m 52 #[.val (.long p1), .second, .val (.long w1), .second, .val (.int d), .val (.long bd), .second] [(.int (XT.cmpL p1 (0 : Int64)))])) _
          by_cases c52_3 : p1 < (0 : Int64)
          · refine XS.ifNo X0.here hx rfl (hb hby d1_52) rfl (XT.ll_ge_f c52_3) ?_
            show Steps p.tables e below (s₁.setTop (mkF m 55 #[.val (.long p1), .second, .val (.long w1), .second, .val (.int d), .val (.long bd), .second] [])) _
            refine XS.iload X0.here hx rfl (hb hby d1_55) rfl ?_
            show Steps p.tables e below (s₁.setTop (mkF m 57 #[.val (.long p1), .second, .val (.long w1), .second, .val (.int d), .val (.long bd), .second] [(.int d)])) _
            refine XT.iconstV X0.here hx rfl (1 : Int32) (hb hby d1_57) rfl ?_
            show Steps p.tables e below (s₁.setTop (mkF m 58 #[.val (.long p1), .second, .val (.long w1), .second, .val (.int d), .val (.long bd), .second] [(.int (1 : Int32)), (.int d)])) _
            refine XS.iadd X0.here hx rfl (hb hby d1_58) rfl ?_
            show Steps p.tables e below (s₁.setTop (mkF m 59 #[.val (.long p1), .second, .val (.long w1), .second, .val (.int d), .val (.long bd), .second] [(.int (d + (1 : Int32)))])) _
            refine XS.goto X0.here hx rfl (pc0 := 59) (pc' := 64) rfl (hb hby d1_59) (by decide) (by decide) ?_
            show Steps p.tables e below (s₁.setTop (mkF m 64 #[.val (.long p1), .second, .val (.long w1), .second, .val (.int d), .val (.long bd), .second] [(.int (d + (1 : Int32)))])) _
            rw [show w2 = (d + (1 : Int32)) from by rw [qw2, if_pos c52_3]] at k
            exact k
          · refine XS.ifYes X0.here hx rfl (pc0 := 52) (pc' := 62) rfl (hb hby d1_52) rfl (XT.ll_ge_t c52_3) (by decide) (by decide) ?_
            show Steps p.tables e below (s₁.setTop (mkF m 62 #[.val (.long p1), .second, .val (.long w1), .second, .val (.int d), .val (.long bd), .second] [])) _
            refine XS.iload X0.here hx rfl (hb hby d1_62) rfl ?_
            show Steps p.tables e below (s₁.setTop (mkF m 64 #[.val (.long p1), .second, .val (.long w1), .second, .val (.int d), .val (.long bd), .second] [(.int d)])) _
            rw [show w2 = d from by rw [qw2, if_neg c52_3]] at k
            exact k
        refine OwnWp.retI X0 hx hlk Bd.returns (hb hby d1_64) (by decide) (by decide) ?_
        exact ⟨d, by rw [qw2], N0, e0, hd1, by omega, by rw [own_neg, ← qw1]; exact hd3, Or.inl (by rw [Int32.lt_iff_toInt_lt] at c25_2; have hk19 : (19 : Int32).toInt = 19 := rfl; omega)⟩
    | succ k ih =>
      intro d bd hd0 hd1 hd2 hd3
      refine OwnWp.step (U' := s₁.setTop (mkF m 25 #[.val (.long p1), .second, .val (.long w1), .second, .val (.int d), .val (.long bd), .second] [(.int (19 : Int32)), (.int d)])) (fun t k => ?_) ?_
      · show Steps p.tables e below (s₁.setTop (mkF m 21 #[.val (.long p1), .second, .val (.long w1), .second, .val (.int d), .val (.long bd), .second] [])) _
        refine XS.iload X0.here hx rfl (hb hby d1_21) rfl ?_
        show Steps p.tables e below (s₁.setTop (mkF m 23 #[.val (.long p1), .second, .val (.long w1), .second, .val (.int d), .val (.long bd), .second] [(.int d)])) _
        refine XT.bipushV X0.here hx rfl (19 : Int32) (hb hby d1_23) rfl ?_
        show Steps p.tables e below (s₁.setTop (mkF m 25 #[.val (.long p1), .second, .val (.long w1), .second, .val (.int d), .val (.long bd), .second] [(.int (19 : Int32)), (.int d)])) _
        exact k
      by_cases c25_4 : d < (19 : Int32)
      · refine OwnWp.step (U' := s₁.setTop (mkF m 28 #[.val (.long p1), .second, .val (.long w1), .second, .val (.int d), .val (.long bd), .second] [])) (fun t k => ?_) ?_
        · show Steps p.tables e below (s₁.setTop (mkF m 25 #[.val (.long p1), .second, .val (.long w1), .second, .val (.int d), .val (.long bd), .second] [(.int (19 : Int32)), (.int d)])) _
          refine XS.icmpNo X0.here hx rfl (hb hby d1_25) rfl (XT.ii_ge_f c25_4) ?_
          exact k
        have hlt : d.toInt < 19 := Int32.lt_iff_toInt_lt.mp c25_4
        refine OwnWp.step (U' := s₁.setTop (mkF m 32 #[.val (.long p1), .second, .val (.long w1), .second, .val (.int d), .val (.long bd), .second] [(.int (XT.cmpL w1 bd))])) (fun t k => ?_) ?_
        · show Steps p.tables e below (s₁.setTop (mkF m 28 #[.val (.long p1), .second, .val (.long w1), .second, .val (.int d), .val (.long bd), .second] [])) _
          refine XT.lloadN X0.here hx rfl (hb hby d1_28) rfl ?_
          show Steps p.tables e below (s₁.setTop (mkF m 29 #[.val (.long p1), .second, .val (.long w1), .second, .val (.int d), .val (.long bd), .second] [(.long w1)])) _
          refine XT.lload X0.here hx rfl (hb hby d1_29) rfl ?_
          show Steps p.tables e below (s₁.setTop (mkF m 31 #[.val (.long p1), .second, .val (.long w1), .second, .val (.int d), .val (.long bd), .second] [(.long bd), (.long w1)])) _
          refine XT.lcmp X0.here hx rfl (hb hby d1_31) rfl ?_
          show Steps p.tables e below (s₁.setTop (mkF m 32 #[.val (.long p1), .second, .val (.long w1), .second, .val (.int d), .val (.long bd), .second] [(.int (XT.cmpL w1 bd))])) _
          exact k
        by_cases c32_5 : bd < w1
        · refine OwnWp.step (U' := s₁.setTop (mkF m 49 #[.val (.long p1), .second, .val (.long w1), .second, .val (.int d), .val (.long bd), .second] [])) (fun t k => ?_) ?_
          · show Steps p.tables e below (s₁.setTop (mkF m 32 #[.val (.long p1), .second, .val (.long w1), .second, .val (.int d), .val (.long bd), .second] [(.int (XT.cmpL w1 bd))])) _
            refine XS.ifYes X0.here hx rfl (pc0 := 32) (pc' := 49) rfl (hb hby d1_32) rfl (XT.ll_gt_t c32_5) (by decide) (by decide) ?_
            exact k
          refine OwnWp.step (U' := s₁.setTop (mkF m 52 #[.val (.long p1), .second, .val (.long w1), .second, .val (.int d), .val (.long bd), .second] [(.int (XT.cmpL p1 (0 : Int64)))])) (fun t k => ?_) ?_
          · show Steps p.tables e below (s₁.setTop (mkF m 49 #[.val (.long p1), .second, .val (.long w1), .second, .val (.int d), .val (.long bd), .second] [])) _
            refine XT.lloadN X0.here hx rfl (hb hby d1_49) rfl ?_
            show Steps p.tables e below (s₁.setTop (mkF m 50 #[.val (.long p1), .second, .val (.long w1), .second, .val (.int d), .val (.long bd), .second] [(.long p1)])) _
            refine XT.lconstV X0.here hx rfl (0 : Int64) (hb hby d1_50) rfl ?_
            show Steps p.tables e below (s₁.setTop (mkF m 51 #[.val (.long p1), .second, .val (.long w1), .second, .val (.int d), .val (.long bd), .second] [(.long (0 : Int64)), (.long p1)])) _
            refine XT.lcmp X0.here hx rfl (hb hby d1_51) rfl ?_
            show Steps p.tables e below (s₁.setTop (mkF m 52 #[.val (.long p1), .second, .val (.long w1), .second, .val (.int d), .val (.long bd), .second] [(.int (XT.cmpL p1 (0 : Int64)))])) _
            exact k
          obtain ⟨w3, qw3⟩ : ∃ z : Int32, z = (if p1 < (0 : Int64) then (d + (1 : Int32)) else d) := ⟨_, rfl⟩
          refine OwnWp.step (U' := s₁.setTop (mkF m 64 #[.val (.long p1), .second, .val (.long w1), .second, .val (.int d), .val (.long bd), .second] [(.int w3)])) (fun t k => ?_) ?_
          · show Steps p.tables e below (s₁.setTop (mkF m 52 #[.val (.long p1), .second, .val (.long w1), .second, .val (.int d), .val (.long bd), .second] [(.int (XT.cmpL p1 (0 : Int64)))])) _
            by_cases c52_6 : p1 < (0 : Int64)
            · refine XS.ifNo X0.here hx rfl (hb hby d1_52) rfl (XT.ll_ge_f c52_6) ?_
              show Steps p.tables e below (s₁.setTop (mkF m 55 #[.val (.long p1), .second, .val (.long w1), .second, .val (.int d), .val (.long bd), .second] [])) _
              refine XS.iload X0.here hx rfl (hb hby d1_55) rfl ?_
              show Steps p.tables e below (s₁.setTop (mkF m 57 #[.val (.long p1), .second, .val (.long w1), .second, .val (.int d), .val (.long bd), .second] [(.int d)])) _
              refine XT.iconstV X0.here hx rfl (1 : Int32) (hb hby d1_57) rfl ?_
              show Steps p.tables e below (s₁.setTop (mkF m 58 #[.val (.long p1), .second, .val (.long w1), .second, .val (.int d), .val (.long bd), .second] [(.int (1 : Int32)), (.int d)])) _
              refine XS.iadd X0.here hx rfl (hb hby d1_58) rfl ?_
              show Steps p.tables e below (s₁.setTop (mkF m 59 #[.val (.long p1), .second, .val (.long w1), .second, .val (.int d), .val (.long bd), .second] [(.int (d + (1 : Int32)))])) _
              refine XS.goto X0.here hx rfl (pc0 := 59) (pc' := 64) rfl (hb hby d1_59) (by decide) (by decide) ?_
              show Steps p.tables e below (s₁.setTop (mkF m 64 #[.val (.long p1), .second, .val (.long w1), .second, .val (.int d), .val (.long bd), .second] [(.int (d + (1 : Int32)))])) _
              rw [show w3 = (d + (1 : Int32)) from by rw [qw3, if_pos c52_6]] at k
              exact k
            · refine XS.ifYes X0.here hx rfl (pc0 := 52) (pc' := 62) rfl (hb hby d1_52) rfl (XT.ll_ge_t c52_6) (by decide) (by decide) ?_
              show Steps p.tables e below (s₁.setTop (mkF m 62 #[.val (.long p1), .second, .val (.long w1), .second, .val (.int d), .val (.long bd), .second] [])) _
              refine XS.iload X0.here hx rfl (hb hby d1_62) rfl ?_
              show Steps p.tables e below (s₁.setTop (mkF m 64 #[.val (.long p1), .second, .val (.long w1), .second, .val (.int d), .val (.long bd), .second] [(.int d)])) _
              rw [show w3 = d from by rw [qw3, if_neg c52_6]] at k
              exact k
          refine OwnWp.retI X0 hx hlk Bd.returns (hb hby d1_64) (by decide) (by decide) ?_
          exact ⟨d, by rw [qw3], N0, e0, hd1, by omega, by rw [own_neg, ← qw1]; exact hd3, Or.inr (by have h9 := Int64.lt_iff_toInt_lt.mp c32_5; rw [hd2 hlt] at h9; rw [own_neg, ← qw1]; exact h9)⟩
        · refine OwnWp.step (U' := s₁.setTop (mkF m 35 #[.val (.long p1), .second, .val (.long w1), .second, .val (.int d), .val (.long bd), .second] [])) (fun t k => ?_) ?_
          · show Steps p.tables e below (s₁.setTop (mkF m 32 #[.val (.long p1), .second, .val (.long w1), .second, .val (.int d), .val (.long bd), .second] [(.int (XT.cmpL w1 bd))])) _
            refine XS.ifNo X0.here hx rfl (hb hby d1_32) rfl (XT.ll_gt_f c32_5) ?_
            exact k
          obtain ⟨w3, qw3⟩ : ∃ z : Int32, z = (d + (1 : Int32)) := ⟨_, rfl⟩
          refine OwnWp.step (U' := s₁.setTop (mkF m 38 #[.val (.long p1), .second, .val (.long w1), .second, .val (.int w3), .val (.long bd), .second] [])) (fun t k => ?_) ?_
          · show Steps p.tables e below (s₁.setTop (mkF m 35 #[.val (.long p1), .second, .val (.long w1), .second, .val (.int d), .val (.long bd), .second] [])) _
            refine XT.iincV X0.here hx rfl (1 : Int32) (hb hby d1_35) rfl rfl (l' := #[.val (.long p1), .second, .val (.long w1), .second, .val (.int (d + (1 : Int32))), .val (.long bd), .second]) rfl ?_
            show Steps p.tables e below (s₁.setTop (mkF m 38 #[.val (.long p1), .second, .val (.long w1), .second, .val (.int (d + (1 : Int32))), .val (.long bd), .second] [])) _
            rw [qw3] at k
            exact k
          obtain ⟨w4, qw4⟩ : ∃ z : Int64, z = (bd * (10 : Int64)) := ⟨_, rfl⟩
          refine OwnWp.step (U' := s₁.setTop (mkF m 46 #[.val (.long p1), .second, .val (.long w1), .second, .val (.int w3), .val (.long w4), .second] [])) (fun t k => ?_) ?_
          · show Steps p.tables e below (s₁.setTop (mkF m 38 #[.val (.long p1), .second, .val (.long w1), .second, .val (.int w3), .val (.long bd), .second] [])) _
            refine XT.lload X0.here hx rfl (hb hby d1_38) rfl ?_
            show Steps p.tables e below (s₁.setTop (mkF m 40 #[.val (.long p1), .second, .val (.long w1), .second, .val (.int w3), .val (.long bd), .second] [(.long bd)])) _
            refine X0.ldc2J hx hown (mvT hZ (hw _ (List.mem_of_getElem? (i := 24) rfl))) rfl (hb hby d1_40) ?_
            show Steps p.tables e below (s₁.setTop (mkF m 43 #[.val (.long p1), .second, .val (.long w1), .second, .val (.int w3), .val (.long bd), .second] [(.long (10 : Int64)), (.long bd)])) _
            refine XT.lmul X0.here hx rfl (hb hby d1_43) rfl ?_
            show Steps p.tables e below (s₁.setTop (mkF m 44 #[.val (.long p1), .second, .val (.long w1), .second, .val (.int w3), .val (.long bd), .second] [(.long (bd * (10 : Int64)))])) _
            refine XT.lstore X0.here hx rfl (hb hby d1_44) rfl (l' := #[.val (.long p1), .second, .val (.long w1), .second, .val (.int w3), .val (.long (bd * (10 : Int64))), .second]) rfl ?_
            show Steps p.tables e below (s₁.setTop (mkF m 46 #[.val (.long p1), .second, .val (.long w1), .second, .val (.int w3), .val (.long (bd * (10 : Int64))), .second] [])) _
            rw [qw4] at k
            exact k
          refine OwnWp.step (U' := s₁.setTop (mkF m 21 #[.val (.long p1), .second, .val (.long w1), .second, .val (.int w3), .val (.long w4), .second] [])) (fun t k => ?_) ?_
          · show Steps p.tables e below (s₁.setTop (mkF m 46 #[.val (.long p1), .second, .val (.long w1), .second, .val (.int w3), .val (.long w4), .second] [])) _
            refine XS.goto X0.here hx rfl (pc0 := 46) (pc' := 21) rfl (hb hby d1_46) (by decide) (by decide) ?_
            show Steps p.tables e below (s₁.setTop (mkF m 21 #[.val (.long p1), .second, .val (.long w1), .second, .val (.int w3), .val (.long w4), .second] [])) _
            exact k
          obtain ⟨t1, t2, t3, t4⟩ := own_turn d bd w1 k w3 w4 qw3 qw4 hd0 hd1 (hd2 hlt) hlt c32_5
          exact ih w3 w4 t1 t2 t3 t4
      · refine OwnWp.step (U' := s₁.setTop (mkF m 49 #[.val (.long p1), .second, .val (.long w1), .second, .val (.int d), .val (.long bd), .second] [])) (fun t k => ?_) ?_
        · show Steps p.tables e below (s₁.setTop (mkF m 25 #[.val (.long p1), .second, .val (.long w1), .second, .val (.int d), .val (.long bd), .second] [(.int (19 : Int32)), (.int d)])) _
          refine XS.icmpYes X0.here hx rfl (pc0 := 25) (pc' := 49) rfl (hb hby d1_25) rfl (XT.ii_ge_t c25_4) (by decide) (by decide) ?_
          exact k
        refine OwnWp.step (U' := s₁.setTop (mkF m 52 #[.val (.long p1), .second, .val (.long w1), .second, .val (.int d), .val (.long bd), .second] [(.int (XT.cmpL p1 (0 : Int64)))])) (fun t k => ?_) ?_
        · show Steps p.tables e below (s₁.setTop (mkF m 49 #[.val (.long p1), .second, .val (.long w1), .second, .val (.int d), .val (.long bd), .second] [])) _
          refine XT.lloadN X0.here hx rfl (hb hby d1_49) rfl ?_
          show Steps p.tables e below (s₁.setTop (mkF m 50 #[.val (.long p1), .second, .val (.long w1), .second, .val (.int d), .val (.long bd), .second] [(.long p1)])) _
          refine XT.lconstV X0.here hx rfl (0 : Int64) (hb hby d1_50) rfl ?_
          show Steps p.tables e below (s₁.setTop (mkF m 51 #[.val (.long p1), .second, .val (.long w1), .second, .val (.int d), .val (.long bd), .second] [(.long (0 : Int64)), (.long p1)])) _
          refine XT.lcmp X0.here hx rfl (hb hby d1_51) rfl ?_
          show Steps p.tables e below (s₁.setTop (mkF m 52 #[.val (.long p1), .second, .val (.long w1), .second, .val (.int d), .val (.long bd), .second] [(.int (XT.cmpL p1 (0 : Int64)))])) _
          exact k
        obtain ⟨w3, qw3⟩ : ∃ z : Int32, z = (if p1 < (0 : Int64) then (d + (1 : Int32)) else d) := ⟨_, rfl⟩
        refine OwnWp.step (U' := s₁.setTop (mkF m 64 #[.val (.long p1), .second, .val (.long w1), .second, .val (.int d), .val (.long bd), .second] [(.int w3)])) (fun t k => ?_) ?_
        · show Steps p.tables e below (s₁.setTop (mkF m 52 #[.val (.long p1), .second, .val (.long w1), .second, .val (.int d), .val (.long bd), .second] [(.int (XT.cmpL p1 (0 : Int64)))])) _
          by_cases c52_7 : p1 < (0 : Int64)
          · refine XS.ifNo X0.here hx rfl (hb hby d1_52) rfl (XT.ll_ge_f c52_7) ?_
            show Steps p.tables e below (s₁.setTop (mkF m 55 #[.val (.long p1), .second, .val (.long w1), .second, .val (.int d), .val (.long bd), .second] [])) _
            refine XS.iload X0.here hx rfl (hb hby d1_55) rfl ?_
            show Steps p.tables e below (s₁.setTop (mkF m 57 #[.val (.long p1), .second, .val (.long w1), .second, .val (.int d), .val (.long bd), .second] [(.int d)])) _
            refine XT.iconstV X0.here hx rfl (1 : Int32) (hb hby d1_57) rfl ?_
            show Steps p.tables e below (s₁.setTop (mkF m 58 #[.val (.long p1), .second, .val (.long w1), .second, .val (.int d), .val (.long bd), .second] [(.int (1 : Int32)), (.int d)])) _
            refine XS.iadd X0.here hx rfl (hb hby d1_58) rfl ?_
            show Steps p.tables e below (s₁.setTop (mkF m 59 #[.val (.long p1), .second, .val (.long w1), .second, .val (.int d), .val (.long bd), .second] [(.int (d + (1 : Int32)))])) _
            refine XS.goto X0.here hx rfl (pc0 := 59) (pc' := 64) rfl (hb hby d1_59) (by decide) (by decide) ?_
            show Steps p.tables e below (s₁.setTop (mkF m 64 #[.val (.long p1), .second, .val (.long w1), .second, .val (.int d), .val (.long bd), .second] [(.int (d + (1 : Int32)))])) _
            rw [show w3 = (d + (1 : Int32)) from by rw [qw3, if_pos c52_7]] at k
            exact k
          · refine XS.ifYes X0.here hx rfl (pc0 := 52) (pc' := 62) rfl (hb hby d1_52) rfl (XT.ll_ge_t c52_7) (by decide) (by decide) ?_
            show Steps p.tables e below (s₁.setTop (mkF m 62 #[.val (.long p1), .second, .val (.long w1), .second, .val (.int d), .val (.long bd), .second] [])) _
            refine XS.iload X0.here hx rfl (hb hby d1_62) rfl ?_
            show Steps p.tables e below (s₁.setTop (mkF m 64 #[.val (.long p1), .second, .val (.long w1), .second, .val (.int d), .val (.long bd), .second] [(.int d)])) _
            rw [show w3 = d from by rw [qw3, if_neg c52_7]] at k
            exact k
        refine OwnWp.retI X0 hx hlk Bd.returns (hb hby d1_64) (by decide) (by decide) ?_
        exact ⟨d, by rw [qw3], N0, e0, hd1, by omega, by rw [own_neg, ← qw1]; exact hd3, Or.inl (by rw [Int32.lt_iff_toInt_lt] at c25_4; have hk19 : (19 : Int32).toInt = 19 := rfl; omega)⟩
  exact hloop 18 (1 : Int32) ((-10) : Int64) (by decide) (by decide) (fun _ => by decide) (Or.inl rfl)
theorem own_fill (i : Int) (h1 : 0 ≤ i) (h2 : i < (19 : Int32).toInt) : Value.long ((ownUpd (ownUpd (ownUpd (ownUpd (ownUpd (ownUpd (ownUpd (ownUpd (ownUpd (ownUpd (ownUpd (ownUpd (ownUpd (ownUpd (ownUpd (ownUpd (ownUpd (ownUpd (ownUpd (fun _ => (0 : Int64)) (0 : Int32).toInt (1 : Int64)) (1 : Int32).toInt (10 : Int64)) (2 : Int32).toInt (100 : Int64)) (3 : Int32).toInt (1000 : Int64)) (4 : Int32).toInt (10000 : Int64)) (5 : Int32).toInt (100000 : Int64)) (6 : Int32).toInt (1000000 : Int64)) (7 : Int32).toInt (10000000 : Int64)) (8 : Int32).toInt (100000000 : Int64)) (9 : Int32).toInt (1000000000 : Int64)) (10 : Int32).toInt (10000000000 : Int64)) (11 : Int32).toInt (100000000000 : Int64)) (12 : Int32).toInt (1000000000000 : Int64)) (13 : Int32).toInt (10000000000000 : Int64)) (14 : Int32).toInt (100000000000000 : Int64)) (15 : Int32).toInt (1000000000000000 : Int64)) (16 : Int32).toInt (10000000000000000 : Int64)) (17 : Int32).toInt (100000000000000000 : Int64)) (18 : Int32).toInt (1000000000000000000 : Int64)) i) = Value.long (own_p i) := by
  have h3 : i < 19 := h2
  have hall : ∀ k : Fin 19, (ownUpd (ownUpd (ownUpd (ownUpd (ownUpd (ownUpd (ownUpd (ownUpd (ownUpd (ownUpd (ownUpd (ownUpd (ownUpd (ownUpd (ownUpd (ownUpd (ownUpd (ownUpd (ownUpd (fun _ => (0 : Int64)) (0 : Int32).toInt (1 : Int64)) (1 : Int32).toInt (10 : Int64)) (2 : Int32).toInt (100 : Int64)) (3 : Int32).toInt (1000 : Int64)) (4 : Int32).toInt (10000 : Int64)) (5 : Int32).toInt (100000 : Int64)) (6 : Int32).toInt (1000000 : Int64)) (7 : Int32).toInt (10000000 : Int64)) (8 : Int32).toInt (100000000 : Int64)) (9 : Int32).toInt (1000000000 : Int64)) (10 : Int32).toInt (10000000000 : Int64)) (11 : Int32).toInt (100000000000 : Int64)) (12 : Int32).toInt (1000000000000 : Int64)) (13 : Int32).toInt (10000000000000 : Int64)) (14 : Int32).toInt (100000000000000 : Int64)) (15 : Int32).toInt (1000000000000000 : Int64)) (16 : Int32).toInt (10000000000000000 : Int64)) (17 : Int32).toInt (100000000000000000 : Int64)) (18 : Int32).toInt (1000000000000000000 : Int64)) ((k.1 : Nat) : Int) = own_p ((k.1 : Nat) : Int) := by decide +kernel
  have := hall ⟨i.toNat, by omega⟩
  rw [show (((⟨i.toNat, by omega⟩ : Fin 19).1 : Nat) : Int) = i from by show ((i.toNat : Nat) : Int) = i; omega] at this
  exact congrArg Value.long this
theorem own_law (x0 : Int64) (dd : Int32) (hd : own_dig x0 dd) (w101 : Int32) (qw101 : w101 = (if x0 < (0 : Int64) then dd + (1 : Int32) else dd)) (w102 : Int64) (qw102 : w102 = (if x0 < (0 : Int64) then x0 else (-x0))) (w103 : Int32) (qw103 : w103 = (if x0 < (0 : Int64) then (w101 - (1 : Int32)) else w101)) (w104 : Int32) (qw104 : w104 = (if w103 = (1 : Int32) then (1 : Int32) else (if (-(own_p (w103 - (1 : Int32)).toInt)) < w102 then (0 : Int32) else (1 : Int32)))) (w105 : Int32) (qw105 : w105 = (if w103 = (19 : Int32) then (1 : Int32) else (if (-(own_p w103.toInt)) < w102 then (1 : Int32) else (0 : Int32)))) (w106 : Int32) (qw106 : w106 = (if w104 = (0 : Int32) then (0 : Int32) else (if w105 = (0 : Int32) then (0 : Int32) else (1 : Int32)))) : w106 = 1 := by
  obtain ⟨hv, -, -⟩ := own_dd x0 dd hd w101 qw101 w103 qw103
  obtain ⟨h1, h2, h3, h4⟩ := hd
  have hn : w102 = own_neg x0 := qw102
  rw [← hn] at h3 h4
  rw [hv] at qw104 qw105
  have e1 : w104 = 1 := by
    rw [qw104]
    by_cases q : dd = (1 : Int32)
    · rw [if_pos q]
    · have q2 : dd.toInt ≠ 1 := fun h => q (Int32.toInt_inj.mp h)
      have h5 := h3.resolve_left q2
      have h6 := own_pN (dd - (1 : Int32)).toInt (by rw [own_dec dd h1]; omega)
      rw [own_dec dd h1] at h6
      rw [if_neg q, if_neg]
      rw [Int64.lt_iff_toInt_lt, own_dec dd h1, h6]; omega
  have e2 : w105 = 1 := by
    rw [qw105]
    by_cases q : dd = (19 : Int32)
    · rw [if_pos q]
    · have q2 : dd.toInt ≠ 19 := fun h => q (Int32.toInt_inj.mp h)
      have h5 := h4.resolve_left q2
      have h6 := own_pN dd.toInt (by omega)
      rw [if_neg q, if_pos]
      rw [Int64.lt_iff_toInt_lt, h6]; omega
  rw [qw106, e1, e2]; rfl

theorem pn_0 : plainFor (⟨"com/example/utu/utu/base/WholeNumbersLengthPinLaw", "law", "(JI)Z"⟩ : MethodName) = true := plainFor_of_name (by first | (simp [plainName, overriddenIn]; done) | decide +kernel)
theorem pd_0 : parseMethodDescriptor "(JI)Z" = some ⟨[.long, .int], some .boolean⟩ := by decide +kernel
theorem ef_0 (m : MethodId) (x0 : Int64) (x1 : Int32) : entryFrame m #[(.long x0), (.int x1)] maxLocals = mkF m 0 #[.val (.long x0), .second, .val (.int x1), .unset, .unset, .unset, .unset, .unset, .unset, .unset, .unset, .unset] [] := by first | (simp [entryFrame, mkF, argsToLocals, Value.category, maxLocals]; done) | rfl
def Q0 (Z : State) (p1 : Int64) (p2 : Int32)  (h0 : Heap) (n0 : Nat) (v : Option Value) (h : Heap) (L : List Loc) : Prop := v = some (.int 1) ∧ Fr n0 L
set_option maxRecDepth 65536 in
set_option maxHeartbeats 40000000 in
theorem rm0 (l : Launch) (Z : State) (a0 : Array Value) (hw : ∀ d ∈ tables_1, d.before a0 Z = true) (ws : List Jvm.Cond) (p1 : Int64) (p2 : Int32)  (h0 : Heap) (n0 : Nat) (Z0 : n0 ≤ h0.size)  :
    MetFree l x (head1 (Jvm.Cond.code x code maxLocals ret :: ws) room_1) (fun a U => a = #[(.long p1), (.int p2)] ∧ Z.Warmed39 U.vm ∧ U.heap = h0) (fun _ _ _ _ _ => True) (fun _ U oc U' => ∃ v L, oc = .returned v ∧ Q0 Z p1 p2  h0 n0 v U'.heap L ∧ FrameEnd U oc U' L room_1.cells room_1.slots) := by
  refine MetFree.of_bodySF pn_0 hisR ?_
  intro p e s m args below meth c s₁ Bd hml0 hP hK
  obtain ⟨rfl, hZ, hh⟩ := hP
  have hx := Bd.exec
  have hby := Bd.bytes
  have hlk := BodyLoose.notSynchronized Bd
  have hml : c.maxLocals = 12 := hml0
  have hown : s.vm.findClass "com/example/utu/utu/base/WholeNumbersLengthPinLaw" = some m.cls := findClass_of_methodNamed Bd.named
  have hnm := (name_of_methodNamed Bd.named Bd.method).1
  have X0 : Stand p l e room_1 s m #[(.long p1), (.int p2)] below meth c s₁ [] 0 0 := Stand.of_body Bd
  have e0 : s₁.heap = h0 := by rw [← hh, Bd.state]; rfl
  have N0 := Fr.nil n0
  show OwnWp p e below s room_1.cells room_1.slots (Q0 Z p1 p2  h0 n0) (s₁.setTop (entryFrame m #[(.long p1), (.int p2)] maxLocals))
  refine OwnWp.cast (ef_0 m p1 p2) ?_
  show OwnWp p e below s _ _ _ (s₁.setTop (mkF m 0 #[.val (.long p1), .second, .val (.int p2), .unset, .unset, .unset, .unset, .unset, .unset, .unset, .unset, .unset] []))
  refine OwnWp.step (U' := s₁.setTop (mkF m 2 #[.val (.long p1), .second, .val (.int p2), .unset, .unset, .unset, .unset, .unset, .unset, .unset, .unset, .unset] [(.int (19 : Int32))])) (fun t k => ?_) ?_
  · show Steps p.tables e below (s₁.setTop (mkF m 0 #[.val (.long p1), .second, .val (.int p2), .unset, .unset, .unset, .unset, .unset, .unset, .unset, .unset, .unset] [])) _
    refine XT.bipushV X0.here hx rfl (19 : Int32) (hb hby at_0) rfl ?_
    show Steps p.tables e below (s₁.setTop (mkF m 2 #[.val (.long p1), .second, .val (.int p2), .unset, .unset, .unset, .unset, .unset, .unset, .unset, .unset, .unset] [(.int (19 : Int32))])) _
    exact k
  obtain ⟨T8, h8, cA8, X8, e8, E8, Ar8, st8⟩ := newP X0 hx hZ (aty := .long) (hw _ (List.mem_of_getElem? (i := 0) rfl)) e0 (g := (mkF m 2 #[.val (.long p1), .second, .val (.int p2), .unset, .unset, .unset, .unset, .unset, .unset, .unset, .unset, .unset] [(.int (19 : Int32))])) rfl (hb hby at_2) rfl (by decide) (cap := 19) (by decide) (by decide) (by decide) (by decide)
  obtain ⟨ad8, ga8⟩ : ∃ z, z = h0.size := ⟨_, rfl⟩
  rw [← ga8] at Ar8 st8
  refine OwnWp.step st8 ?_
  have Z8 : n0 ≤ h8.size := Nat.le_trans Z0 E8.1
  have b8 : n0 ≤ ad8 := Nat.le_trans Z0 (Nat.le_of_eq ga8.symm)
  have F9 : OwnA Z h8 ad8 .long (19 : Int32) (fun _ => (.long (0 : Int64))) := OwnA.new Ar8 (by decide)
  show OwnWp p e below s _ _ _ (T8.setTop (mkF m 4 #[.val (.long p1), .second, .val (.int p2), .unset, .unset, .unset, .unset, .unset, .unset, .unset, .unset, .unset] [(.ref ad8)]))
  refine OwnWp.step (U' := T8.setTop (mkF m 7 #[.val (.long p1), .second, .val (.int p2), .unset, .unset, .unset, .unset, .unset, .unset, .unset, .unset, .unset] [(.long (1 : Int64)), (.int (0 : Int32)), (.ref ad8), (.ref ad8)])) (fun t k => ?_) ?_
  · show Steps p.tables e below (T8.setTop (mkF m 4 #[.val (.long p1), .second, .val (.int p2), .unset, .unset, .unset, .unset, .unset, .unset, .unset, .unset, .unset] [(.ref ad8)])) _
    refine XS.dup X8.here hx rfl (hb hby at_4) rfl rfl ?_
    show Steps p.tables e below (T8.setTop (mkF m 5 #[.val (.long p1), .second, .val (.int p2), .unset, .unset, .unset, .unset, .unset, .unset, .unset, .unset, .unset] [(.ref ad8), (.ref ad8)])) _
    refine XT.iconstV X8.here hx rfl (0 : Int32) (hb hby at_5) rfl ?_
    show Steps p.tables e below (T8.setTop (mkF m 6 #[.val (.long p1), .second, .val (.int p2), .unset, .unset, .unset, .unset, .unset, .unset, .unset, .unset, .unset] [(.int (0 : Int32)), (.ref ad8), (.ref ad8)])) _
    refine XT.lconstV X8.here hx rfl (1 : Int64) (hb hby at_6) rfl ?_
    show Steps p.tables e below (T8.setTop (mkF m 7 #[.val (.long p1), .second, .val (.int p2), .unset, .unset, .unset, .unset, .unset, .unset, .unset, .unset, .unset] [(.long (1 : Int64)), (.int (0 : Int32)), (.ref ad8), (.ref ad8)])) _
    exact k
  obtain ⟨T10, h10, L10, X10, e10, N10, K10, F10, st10⟩ := OwnA.stJ X8 hx hZ e8 N0 b8 F9 (by decide) (by decide) (g := (mkF m 7 #[.val (.long p1), .second, .val (.int p2), .unset, .unset, .unset, .unset, .unset, .unset, .unset, .unset, .unset] [(.long (1 : Int64)), (.int (0 : Int32)), (.ref ad8), (.ref ad8)])) rfl rfl (hb hby at_7)
  refine OwnWp.step st10 ?_
  have Z10 : n0 ≤ h10.size := Nat.le_trans Z8 K10.1
  have F11 : OwnA Z h10 ad8 .long (19 : Int32) (fun i => .long ((ownUpd (fun _ => (0 : Int64)) (0 : Int32).toInt (1 : Int64)) i)) := F10.congr (fun i _ _ => by exact ownUpd_long (fun _ => (0 : Int64)) _ _ i)
  show OwnWp p e below s _ _ _ (T10.setTop (mkF m 8 #[.val (.long p1), .second, .val (.int p2), .unset, .unset, .unset, .unset, .unset, .unset, .unset, .unset, .unset] [(.ref ad8)]))
  refine OwnWp.step (U' := T10.setTop (mkF m 13 #[.val (.long p1), .second, .val (.int p2), .unset, .unset, .unset, .unset, .unset, .unset, .unset, .unset, .unset] [(.long (10 : Int64)), (.int (1 : Int32)), (.ref ad8), (.ref ad8)])) (fun t k => ?_) ?_
  · show Steps p.tables e below (T10.setTop (mkF m 8 #[.val (.long p1), .second, .val (.int p2), .unset, .unset, .unset, .unset, .unset, .unset, .unset, .unset, .unset] [(.ref ad8)])) _
    refine XS.dup X10.here hx rfl (hb hby at_8) rfl rfl ?_
    show Steps p.tables e below (T10.setTop (mkF m 9 #[.val (.long p1), .second, .val (.int p2), .unset, .unset, .unset, .unset, .unset, .unset, .unset, .unset, .unset] [(.ref ad8), (.ref ad8)])) _
    refine XT.iconstV X10.here hx rfl (1 : Int32) (hb hby at_9) rfl ?_
    show Steps p.tables e below (T10.setTop (mkF m 10 #[.val (.long p1), .second, .val (.int p2), .unset, .unset, .unset, .unset, .unset, .unset, .unset, .unset, .unset] [(.int (1 : Int32)), (.ref ad8), (.ref ad8)])) _
    refine X10.ldc2J hx hown (mvT hZ (hw _ (List.mem_of_getElem? (i := 1) rfl))) rfl (hb hby at_10) ?_
    show Steps p.tables e below (T10.setTop (mkF m 13 #[.val (.long p1), .second, .val (.int p2), .unset, .unset, .unset, .unset, .unset, .unset, .unset, .unset, .unset] [(.long (10 : Int64)), (.int (1 : Int32)), (.ref ad8), (.ref ad8)])) _
    exact k
  obtain ⟨T12, h12, L12, X12, e12, N12, K12, F12, st12⟩ := OwnA.stJ X10 hx hZ e10 N10 b8 F11 (by decide) (by decide) (g := (mkF m 13 #[.val (.long p1), .second, .val (.int p2), .unset, .unset, .unset, .unset, .unset, .unset, .unset, .unset, .unset] [(.long (10 : Int64)), (.int (1 : Int32)), (.ref ad8), (.ref ad8)])) rfl rfl (hb hby at_13)
  refine OwnWp.step st12 ?_
  have Z12 : n0 ≤ h12.size := Nat.le_trans Z10 K12.1
  have F13 : OwnA Z h12 ad8 .long (19 : Int32) (fun i => .long ((ownUpd (ownUpd (fun _ => (0 : Int64)) (0 : Int32).toInt (1 : Int64)) (1 : Int32).toInt (10 : Int64)) i)) := F12.congr (fun i _ _ => by exact ownUpd_long (ownUpd (fun _ => (0 : Int64)) (0 : Int32).toInt (1 : Int64)) _ _ i)
  show OwnWp p e below s _ _ _ (T12.setTop (mkF m 14 #[.val (.long p1), .second, .val (.int p2), .unset, .unset, .unset, .unset, .unset, .unset, .unset, .unset, .unset] [(.ref ad8)]))
  refine OwnWp.step (U' := T12.setTop (mkF m 19 #[.val (.long p1), .second, .val (.int p2), .unset, .unset, .unset, .unset, .unset, .unset, .unset, .unset, .unset] [(.long (100 : Int64)), (.int (2 : Int32)), (.ref ad8), (.ref ad8)])) (fun t k => ?_) ?_
  · show Steps p.tables e below (T12.setTop (mkF m 14 #[.val (.long p1), .second, .val (.int p2), .unset, .unset, .unset, .unset, .unset, .unset, .unset, .unset, .unset] [(.ref ad8)])) _
    refine XS.dup X12.here hx rfl (hb hby at_14) rfl rfl ?_
    show Steps p.tables e below (T12.setTop (mkF m 15 #[.val (.long p1), .second, .val (.int p2), .unset, .unset, .unset, .unset, .unset, .unset, .unset, .unset, .unset] [(.ref ad8), (.ref ad8)])) _
    refine XT.iconstV X12.here hx rfl (2 : Int32) (hb hby at_15) rfl ?_
    show Steps p.tables e below (T12.setTop (mkF m 16 #[.val (.long p1), .second, .val (.int p2), .unset, .unset, .unset, .unset, .unset, .unset, .unset, .unset, .unset] [(.int (2 : Int32)), (.ref ad8), (.ref ad8)])) _
    refine X12.ldc2J hx hown (mvT hZ (hw _ (List.mem_of_getElem? (i := 2) rfl))) rfl (hb hby at_16) ?_
    show Steps p.tables e below (T12.setTop (mkF m 19 #[.val (.long p1), .second, .val (.int p2), .unset, .unset, .unset, .unset, .unset, .unset, .unset, .unset, .unset] [(.long (100 : Int64)), (.int (2 : Int32)), (.ref ad8), (.ref ad8)])) _
    exact k
  obtain ⟨T14, h14, L14, X14, e14, N14, K14, F14, st14⟩ := OwnA.stJ X12 hx hZ e12 N12 b8 F13 (by decide) (by decide) (g := (mkF m 19 #[.val (.long p1), .second, .val (.int p2), .unset, .unset, .unset, .unset, .unset, .unset, .unset, .unset, .unset] [(.long (100 : Int64)), (.int (2 : Int32)), (.ref ad8), (.ref ad8)])) rfl rfl (hb hby at_19)
  refine OwnWp.step st14 ?_
  have Z14 : n0 ≤ h14.size := Nat.le_trans Z12 K14.1
  have F15 : OwnA Z h14 ad8 .long (19 : Int32) (fun i => .long ((ownUpd (ownUpd (ownUpd (fun _ => (0 : Int64)) (0 : Int32).toInt (1 : Int64)) (1 : Int32).toInt (10 : Int64)) (2 : Int32).toInt (100 : Int64)) i)) := F14.congr (fun i _ _ => by exact ownUpd_long (ownUpd (ownUpd (fun _ => (0 : Int64)) (0 : Int32).toInt (1 : Int64)) (1 : Int32).toInt (10 : Int64)) _ _ i)
  show OwnWp p e below s _ _ _ (T14.setTop (mkF m 20 #[.val (.long p1), .second, .val (.int p2), .unset, .unset, .unset, .unset, .unset, .unset, .unset, .unset, .unset] [(.ref ad8)]))
  refine OwnWp.step (U' := T14.setTop (mkF m 25 #[.val (.long p1), .second, .val (.int p2), .unset, .unset, .unset, .unset, .unset, .unset, .unset, .unset, .unset] [(.long (1000 : Int64)), (.int (3 : Int32)), (.ref ad8), (.ref ad8)])) (fun t k => ?_) ?_
  · show Steps p.tables e below (T14.setTop (mkF m 20 #[.val (.long p1), .second, .val (.int p2), .unset, .unset, .unset, .unset, .unset, .unset, .unset, .unset, .unset] [(.ref ad8)])) _
    refine XS.dup X14.here hx rfl (hb hby at_20) rfl rfl ?_
    show Steps p.tables e below (T14.setTop (mkF m 21 #[.val (.long p1), .second, .val (.int p2), .unset, .unset, .unset, .unset, .unset, .unset, .unset, .unset, .unset] [(.ref ad8), (.ref ad8)])) _
    refine XT.iconstV X14.here hx rfl (3 : Int32) (hb hby at_21) rfl ?_
    show Steps p.tables e below (T14.setTop (mkF m 22 #[.val (.long p1), .second, .val (.int p2), .unset, .unset, .unset, .unset, .unset, .unset, .unset, .unset, .unset] [(.int (3 : Int32)), (.ref ad8), (.ref ad8)])) _
    refine X14.ldc2J hx hown (mvT hZ (hw _ (List.mem_of_getElem? (i := 3) rfl))) rfl (hb hby at_22) ?_
    show Steps p.tables e below (T14.setTop (mkF m 25 #[.val (.long p1), .second, .val (.int p2), .unset, .unset, .unset, .unset, .unset, .unset, .unset, .unset, .unset] [(.long (1000 : Int64)), (.int (3 : Int32)), (.ref ad8), (.ref ad8)])) _
    exact k
  obtain ⟨T16, h16, L16, X16, e16, N16, K16, F16, st16⟩ := OwnA.stJ X14 hx hZ e14 N14 b8 F15 (by decide) (by decide) (g := (mkF m 25 #[.val (.long p1), .second, .val (.int p2), .unset, .unset, .unset, .unset, .unset, .unset, .unset, .unset, .unset] [(.long (1000 : Int64)), (.int (3 : Int32)), (.ref ad8), (.ref ad8)])) rfl rfl (hb hby at_25)
  refine OwnWp.step st16 ?_
  have Z16 : n0 ≤ h16.size := Nat.le_trans Z14 K16.1
  have F17 : OwnA Z h16 ad8 .long (19 : Int32) (fun i => .long ((ownUpd (ownUpd (ownUpd (ownUpd (fun _ => (0 : Int64)) (0 : Int32).toInt (1 : Int64)) (1 : Int32).toInt (10 : Int64)) (2 : Int32).toInt (100 : Int64)) (3 : Int32).toInt (1000 : Int64)) i)) := F16.congr (fun i _ _ => by exact ownUpd_long (ownUpd (ownUpd (ownUpd (fun _ => (0 : Int64)) (0 : Int32).toInt (1 : Int64)) (1 : Int32).toInt (10 : Int64)) (2 : Int32).toInt (100 : Int64)) _ _ i)
  show OwnWp p e below s _ _ _ (T16.setTop (mkF m 26 #[.val (.long p1), .second, .val (.int p2), .unset, .unset, .unset, .unset, .unset, .unset, .unset, .unset, .unset] [(.ref ad8)]))
  refine OwnWp.step (U' := T16.setTop (mkF m 31 #[.val (.long p1), .second, .val (.int p2), .unset, .unset, .unset, .unset, .unset, .unset, .unset, .unset, .unset] [(.long (10000 : Int64)), (.int (4 : Int32)), (.ref ad8), (.ref ad8)])) (fun t k => ?_) ?_
  · show Steps p.tables e below (T16.setTop (mkF m 26 #[.val (.long p1), .second, .val (.int p2), .unset, .unset, .unset, .unset, .unset, .unset, .unset, .unset, .unset] [(.ref ad8)])) _
    refine XS.dup X16.here hx rfl (hb hby at_26) rfl rfl ?_
    show Steps p.tables e below (T16.setTop (mkF m 27 #[.val (.long p1), .second, .val (.int p2), .unset, .unset, .unset, .unset, .unset, .unset, .unset, .unset, .unset] [(.ref ad8), (.ref ad8)])) _
    refine XT.iconstV X16.here hx rfl (4 : Int32) (hb hby at_27) rfl ?_
    show Steps p.tables e below (T16.setTop (mkF m 28 #[.val (.long p1), .second, .val (.int p2), .unset, .unset, .unset, .unset, .unset, .unset, .unset, .unset, .unset] [(.int (4 : Int32)), (.ref ad8), (.ref ad8)])) _
    refine X16.ldc2J hx hown (mvT hZ (hw _ (List.mem_of_getElem? (i := 4) rfl))) rfl (hb hby at_28) ?_
    show Steps p.tables e below (T16.setTop (mkF m 31 #[.val (.long p1), .second, .val (.int p2), .unset, .unset, .unset, .unset, .unset, .unset, .unset, .unset, .unset] [(.long (10000 : Int64)), (.int (4 : Int32)), (.ref ad8), (.ref ad8)])) _
    exact k
  obtain ⟨T18, h18, L18, X18, e18, N18, K18, F18, st18⟩ := OwnA.stJ X16 hx hZ e16 N16 b8 F17 (by decide) (by decide) (g := (mkF m 31 #[.val (.long p1), .second, .val (.int p2), .unset, .unset, .unset, .unset, .unset, .unset, .unset, .unset, .unset] [(.long (10000 : Int64)), (.int (4 : Int32)), (.ref ad8), (.ref ad8)])) rfl rfl (hb hby at_31)
  refine OwnWp.step st18 ?_
  have Z18 : n0 ≤ h18.size := Nat.le_trans Z16 K18.1
  have F19 : OwnA Z h18 ad8 .long (19 : Int32) (fun i => .long ((ownUpd (ownUpd (ownUpd (ownUpd (ownUpd (fun _ => (0 : Int64)) (0 : Int32).toInt (1 : Int64)) (1 : Int32).toInt (10 : Int64)) (2 : Int32).toInt (100 : Int64)) (3 : Int32).toInt (1000 : Int64)) (4 : Int32).toInt (10000 : Int64)) i)) := F18.congr (fun i _ _ => by exact ownUpd_long (ownUpd (ownUpd (ownUpd (ownUpd (fun _ => (0 : Int64)) (0 : Int32).toInt (1 : Int64)) (1 : Int32).toInt (10 : Int64)) (2 : Int32).toInt (100 : Int64)) (3 : Int32).toInt (1000 : Int64)) _ _ i)
  show OwnWp p e below s _ _ _ (T18.setTop (mkF m 32 #[.val (.long p1), .second, .val (.int p2), .unset, .unset, .unset, .unset, .unset, .unset, .unset, .unset, .unset] [(.ref ad8)]))
  refine OwnWp.step (U' := T18.setTop (mkF m 37 #[.val (.long p1), .second, .val (.int p2), .unset, .unset, .unset, .unset, .unset, .unset, .unset, .unset, .unset] [(.long (100000 : Int64)), (.int (5 : Int32)), (.ref ad8), (.ref ad8)])) (fun t k => ?_) ?_
  · show Steps p.tables e below (T18.setTop (mkF m 32 #[.val (.long p1), .second, .val (.int p2), .unset, .unset, .unset, .unset, .unset, .unset, .unset, .unset, .unset] [(.ref ad8)])) _
    refine XS.dup X18.here hx rfl (hb hby at_32) rfl rfl ?_
    show Steps p.tables e below (T18.setTop (mkF m 33 #[.val (.long p1), .second, .val (.int p2), .unset, .unset, .unset, .unset, .unset, .unset, .unset, .unset, .unset] [(.ref ad8), (.ref ad8)])) _
    refine XT.iconstV X18.here hx rfl (5 : Int32) (hb hby at_33) rfl ?_
    show Steps p.tables e below (T18.setTop (mkF m 34 #[.val (.long p1), .second, .val (.int p2), .unset, .unset, .unset, .unset, .unset, .unset, .unset, .unset, .unset] [(.int (5 : Int32)), (.ref ad8), (.ref ad8)])) _
    refine X18.ldc2J hx hown (mvT hZ (hw _ (List.mem_of_getElem? (i := 5) rfl))) rfl (hb hby at_34) ?_
    show Steps p.tables e below (T18.setTop (mkF m 37 #[.val (.long p1), .second, .val (.int p2), .unset, .unset, .unset, .unset, .unset, .unset, .unset, .unset, .unset] [(.long (100000 : Int64)), (.int (5 : Int32)), (.ref ad8), (.ref ad8)])) _
    exact k
  obtain ⟨T20, h20, L20, X20, e20, N20, K20, F20, st20⟩ := OwnA.stJ X18 hx hZ e18 N18 b8 F19 (by decide) (by decide) (g := (mkF m 37 #[.val (.long p1), .second, .val (.int p2), .unset, .unset, .unset, .unset, .unset, .unset, .unset, .unset, .unset] [(.long (100000 : Int64)), (.int (5 : Int32)), (.ref ad8), (.ref ad8)])) rfl rfl (hb hby at_37)
  refine OwnWp.step st20 ?_
  have Z20 : n0 ≤ h20.size := Nat.le_trans Z18 K20.1
  have F21 : OwnA Z h20 ad8 .long (19 : Int32) (fun i => .long ((ownUpd (ownUpd (ownUpd (ownUpd (ownUpd (ownUpd (fun _ => (0 : Int64)) (0 : Int32).toInt (1 : Int64)) (1 : Int32).toInt (10 : Int64)) (2 : Int32).toInt (100 : Int64)) (3 : Int32).toInt (1000 : Int64)) (4 : Int32).toInt (10000 : Int64)) (5 : Int32).toInt (100000 : Int64)) i)) := F20.congr (fun i _ _ => by exact ownUpd_long (ownUpd (ownUpd (ownUpd (ownUpd (ownUpd (fun _ => (0 : Int64)) (0 : Int32).toInt (1 : Int64)) (1 : Int32).toInt (10 : Int64)) (2 : Int32).toInt (100 : Int64)) (3 : Int32).toInt (1000 : Int64)) (4 : Int32).toInt (10000 : Int64)) _ _ i)
  show OwnWp p e below s _ _ _ (T20.setTop (mkF m 38 #[.val (.long p1), .second, .val (.int p2), .unset, .unset, .unset, .unset, .unset, .unset, .unset, .unset, .unset] [(.ref ad8)]))
  refine OwnWp.step (U' := T20.setTop (mkF m 44 #[.val (.long p1), .second, .val (.int p2), .unset, .unset, .unset, .unset, .unset, .unset, .unset, .unset, .unset] [(.long (1000000 : Int64)), (.int (6 : Int32)), (.ref ad8), (.ref ad8)])) (fun t k => ?_) ?_
  · show Steps p.tables e below (T20.setTop (mkF m 38 #[.val (.long p1), .second, .val (.int p2), .unset, .unset, .unset, .unset, .unset, .unset, .unset, .unset, .unset] [(.ref ad8)])) _
    refine XS.dup X20.here hx rfl (hb hby at_38) rfl rfl ?_
    show Steps p.tables e below (T20.setTop (mkF m 39 #[.val (.long p1), .second, .val (.int p2), .unset, .unset, .unset, .unset, .unset, .unset, .unset, .unset, .unset] [(.ref ad8), (.ref ad8)])) _
    refine XT.bipushV X20.here hx rfl (6 : Int32) (hb hby at_39) rfl ?_
    show Steps p.tables e below (T20.setTop (mkF m 41 #[.val (.long p1), .second, .val (.int p2), .unset, .unset, .unset, .unset, .unset, .unset, .unset, .unset, .unset] [(.int (6 : Int32)), (.ref ad8), (.ref ad8)])) _
    refine X20.ldc2J hx hown (mvT hZ (hw _ (List.mem_of_getElem? (i := 6) rfl))) rfl (hb hby at_41) ?_
    show Steps p.tables e below (T20.setTop (mkF m 44 #[.val (.long p1), .second, .val (.int p2), .unset, .unset, .unset, .unset, .unset, .unset, .unset, .unset, .unset] [(.long (1000000 : Int64)), (.int (6 : Int32)), (.ref ad8), (.ref ad8)])) _
    exact k
  obtain ⟨T22, h22, L22, X22, e22, N22, K22, F22, st22⟩ := OwnA.stJ X20 hx hZ e20 N20 b8 F21 (by decide) (by decide) (g := (mkF m 44 #[.val (.long p1), .second, .val (.int p2), .unset, .unset, .unset, .unset, .unset, .unset, .unset, .unset, .unset] [(.long (1000000 : Int64)), (.int (6 : Int32)), (.ref ad8), (.ref ad8)])) rfl rfl (hb hby at_44)
  refine OwnWp.step st22 ?_
  have Z22 : n0 ≤ h22.size := Nat.le_trans Z20 K22.1
  have F23 : OwnA Z h22 ad8 .long (19 : Int32) (fun i => .long ((ownUpd (ownUpd (ownUpd (ownUpd (ownUpd (ownUpd (ownUpd (fun _ => (0 : Int64)) (0 : Int32).toInt (1 : Int64)) (1 : Int32).toInt (10 : Int64)) (2 : Int32).toInt (100 : Int64)) (3 : Int32).toInt (1000 : Int64)) (4 : Int32).toInt (10000 : Int64)) (5 : Int32).toInt (100000 : Int64)) (6 : Int32).toInt (1000000 : Int64)) i)) := F22.congr (fun i _ _ => by exact ownUpd_long (ownUpd (ownUpd (ownUpd (ownUpd (ownUpd (ownUpd (fun _ => (0 : Int64)) (0 : Int32).toInt (1 : Int64)) (1 : Int32).toInt (10 : Int64)) (2 : Int32).toInt (100 : Int64)) (3 : Int32).toInt (1000 : Int64)) (4 : Int32).toInt (10000 : Int64)) (5 : Int32).toInt (100000 : Int64)) _ _ i)
  show OwnWp p e below s _ _ _ (T22.setTop (mkF m 45 #[.val (.long p1), .second, .val (.int p2), .unset, .unset, .unset, .unset, .unset, .unset, .unset, .unset, .unset] [(.ref ad8)]))
  refine OwnWp.step (U' := T22.setTop (mkF m 51 #[.val (.long p1), .second, .val (.int p2), .unset, .unset, .unset, .unset, .unset, .unset, .unset, .unset, .unset] [(.long (10000000 : Int64)), (.int (7 : Int32)), (.ref ad8), (.ref ad8)])) (fun t k => ?_) ?_
  · show Steps p.tables e below (T22.setTop (mkF m 45 #[.val (.long p1), .second, .val (.int p2), .unset, .unset, .unset, .unset, .unset, .unset, .unset, .unset, .unset] [(.ref ad8)])) _
    refine XS.dup X22.here hx rfl (hb hby at_45) rfl rfl ?_
    show Steps p.tables e below (T22.setTop (mkF m 46 #[.val (.long p1), .second, .val (.int p2), .unset, .unset, .unset, .unset, .unset, .unset, .unset, .unset, .unset] [(.ref ad8), (.ref ad8)])) _
    refine XT.bipushV X22.here hx rfl (7 : Int32) (hb hby at_46) rfl ?_
    show Steps p.tables e below (T22.setTop (mkF m 48 #[.val (.long p1), .second, .val (.int p2), .unset, .unset, .unset, .unset, .unset, .unset, .unset, .unset, .unset] [(.int (7 : Int32)), (.ref ad8), (.ref ad8)])) _
    refine X22.ldc2J hx hown (mvT hZ (hw _ (List.mem_of_getElem? (i := 7) rfl))) rfl (hb hby at_48) ?_
    show Steps p.tables e below (T22.setTop (mkF m 51 #[.val (.long p1), .second, .val (.int p2), .unset, .unset, .unset, .unset, .unset, .unset, .unset, .unset, .unset] [(.long (10000000 : Int64)), (.int (7 : Int32)), (.ref ad8), (.ref ad8)])) _
    exact k
  obtain ⟨T24, h24, L24, X24, e24, N24, K24, F24, st24⟩ := OwnA.stJ X22 hx hZ e22 N22 b8 F23 (by decide) (by decide) (g := (mkF m 51 #[.val (.long p1), .second, .val (.int p2), .unset, .unset, .unset, .unset, .unset, .unset, .unset, .unset, .unset] [(.long (10000000 : Int64)), (.int (7 : Int32)), (.ref ad8), (.ref ad8)])) rfl rfl (hb hby at_51)
  refine OwnWp.step st24 ?_
  have Z24 : n0 ≤ h24.size := Nat.le_trans Z22 K24.1
  have F25 : OwnA Z h24 ad8 .long (19 : Int32) (fun i => .long ((ownUpd (ownUpd (ownUpd (ownUpd (ownUpd (ownUpd (ownUpd (ownUpd (fun _ => (0 : Int64)) (0 : Int32).toInt (1 : Int64)) (1 : Int32).toInt (10 : Int64)) (2 : Int32).toInt (100 : Int64)) (3 : Int32).toInt (1000 : Int64)) (4 : Int32).toInt (10000 : Int64)) (5 : Int32).toInt (100000 : Int64)) (6 : Int32).toInt (1000000 : Int64)) (7 : Int32).toInt (10000000 : Int64)) i)) := F24.congr (fun i _ _ => by exact ownUpd_long (ownUpd (ownUpd (ownUpd (ownUpd (ownUpd (ownUpd (ownUpd (fun _ => (0 : Int64)) (0 : Int32).toInt (1 : Int64)) (1 : Int32).toInt (10 : Int64)) (2 : Int32).toInt (100 : Int64)) (3 : Int32).toInt (1000 : Int64)) (4 : Int32).toInt (10000 : Int64)) (5 : Int32).toInt (100000 : Int64)) (6 : Int32).toInt (1000000 : Int64)) _ _ i)
  show OwnWp p e below s _ _ _ (T24.setTop (mkF m 52 #[.val (.long p1), .second, .val (.int p2), .unset, .unset, .unset, .unset, .unset, .unset, .unset, .unset, .unset] [(.ref ad8)]))
  refine OwnWp.step (U' := T24.setTop (mkF m 58 #[.val (.long p1), .second, .val (.int p2), .unset, .unset, .unset, .unset, .unset, .unset, .unset, .unset, .unset] [(.long (100000000 : Int64)), (.int (8 : Int32)), (.ref ad8), (.ref ad8)])) (fun t k => ?_) ?_
  · show Steps p.tables e below (T24.setTop (mkF m 52 #[.val (.long p1), .second, .val (.int p2), .unset, .unset, .unset, .unset, .unset, .unset, .unset, .unset, .unset] [(.ref ad8)])) _
    refine XS.dup X24.here hx rfl (hb hby at_52) rfl rfl ?_
    show Steps p.tables e below (T24.setTop (mkF m 53 #[.val (.long p1), .second, .val (.int p2), .unset, .unset, .unset, .unset, .unset, .unset, .unset, .unset, .unset] [(.ref ad8), (.ref ad8)])) _
    refine XT.bipushV X24.here hx rfl (8 : Int32) (hb hby at_53) rfl ?_
    show Steps p.tables e below (T24.setTop (mkF m 55 #[.val (.long p1), .second, .val (.int p2), .unset, .unset, .unset, .unset, .unset, .unset, .unset, .unset, .unset] [(.int (8 : Int32)), (.ref ad8), (.ref ad8)])) _
    refine X24.ldc2J hx hown (mvT hZ (hw _ (List.mem_of_getElem? (i := 8) rfl))) rfl (hb hby at_55) ?_
    show Steps p.tables e below (T24.setTop (mkF m 58 #[.val (.long p1), .second, .val (.int p2), .unset, .unset, .unset, .unset, .unset, .unset, .unset, .unset, .unset] [(.long (100000000 : Int64)), (.int (8 : Int32)), (.ref ad8), (.ref ad8)])) _
    exact k
  obtain ⟨T26, h26, L26, X26, e26, N26, K26, F26, st26⟩ := OwnA.stJ X24 hx hZ e24 N24 b8 F25 (by decide) (by decide) (g := (mkF m 58 #[.val (.long p1), .second, .val (.int p2), .unset, .unset, .unset, .unset, .unset, .unset, .unset, .unset, .unset] [(.long (100000000 : Int64)), (.int (8 : Int32)), (.ref ad8), (.ref ad8)])) rfl rfl (hb hby at_58)
  refine OwnWp.step st26 ?_
  have Z26 : n0 ≤ h26.size := Nat.le_trans Z24 K26.1
  have F27 : OwnA Z h26 ad8 .long (19 : Int32) (fun i => .long ((ownUpd (ownUpd (ownUpd (ownUpd (ownUpd (ownUpd (ownUpd (ownUpd (ownUpd (fun _ => (0 : Int64)) (0 : Int32).toInt (1 : Int64)) (1 : Int32).toInt (10 : Int64)) (2 : Int32).toInt (100 : Int64)) (3 : Int32).toInt (1000 : Int64)) (4 : Int32).toInt (10000 : Int64)) (5 : Int32).toInt (100000 : Int64)) (6 : Int32).toInt (1000000 : Int64)) (7 : Int32).toInt (10000000 : Int64)) (8 : Int32).toInt (100000000 : Int64)) i)) := F26.congr (fun i _ _ => by exact ownUpd_long (ownUpd (ownUpd (ownUpd (ownUpd (ownUpd (ownUpd (ownUpd (ownUpd (fun _ => (0 : Int64)) (0 : Int32).toInt (1 : Int64)) (1 : Int32).toInt (10 : Int64)) (2 : Int32).toInt (100 : Int64)) (3 : Int32).toInt (1000 : Int64)) (4 : Int32).toInt (10000 : Int64)) (5 : Int32).toInt (100000 : Int64)) (6 : Int32).toInt (1000000 : Int64)) (7 : Int32).toInt (10000000 : Int64)) _ _ i)
  show OwnWp p e below s _ _ _ (T26.setTop (mkF m 59 #[.val (.long p1), .second, .val (.int p2), .unset, .unset, .unset, .unset, .unset, .unset, .unset, .unset, .unset] [(.ref ad8)]))
  refine OwnWp.step (U' := T26.setTop (mkF m 65 #[.val (.long p1), .second, .val (.int p2), .unset, .unset, .unset, .unset, .unset, .unset, .unset, .unset, .unset] [(.long (1000000000 : Int64)), (.int (9 : Int32)), (.ref ad8), (.ref ad8)])) (fun t k => ?_) ?_
  · show Steps p.tables e below (T26.setTop (mkF m 59 #[.val (.long p1), .second, .val (.int p2), .unset, .unset, .unset, .unset, .unset, .unset, .unset, .unset, .unset] [(.ref ad8)])) _
    refine XS.dup X26.here hx rfl (hb hby at_59) rfl rfl ?_
    show Steps p.tables e below (T26.setTop (mkF m 60 #[.val (.long p1), .second, .val (.int p2), .unset, .unset, .unset, .unset, .unset, .unset, .unset, .unset, .unset] [(.ref ad8), (.ref ad8)])) _
    refine XT.bipushV X26.here hx rfl (9 : Int32) (hb hby at_60) rfl ?_
    show Steps p.tables e below (T26.setTop (mkF m 62 #[.val (.long p1), .second, .val (.int p2), .unset, .unset, .unset, .unset, .unset, .unset, .unset, .unset, .unset] [(.int (9 : Int32)), (.ref ad8), (.ref ad8)])) _
    refine X26.ldc2J hx hown (mvT hZ (hw _ (List.mem_of_getElem? (i := 9) rfl))) rfl (hb hby at_62) ?_
    show Steps p.tables e below (T26.setTop (mkF m 65 #[.val (.long p1), .second, .val (.int p2), .unset, .unset, .unset, .unset, .unset, .unset, .unset, .unset, .unset] [(.long (1000000000 : Int64)), (.int (9 : Int32)), (.ref ad8), (.ref ad8)])) _
    exact k
  obtain ⟨T28, h28, L28, X28, e28, N28, K28, F28, st28⟩ := OwnA.stJ X26 hx hZ e26 N26 b8 F27 (by decide) (by decide) (g := (mkF m 65 #[.val (.long p1), .second, .val (.int p2), .unset, .unset, .unset, .unset, .unset, .unset, .unset, .unset, .unset] [(.long (1000000000 : Int64)), (.int (9 : Int32)), (.ref ad8), (.ref ad8)])) rfl rfl (hb hby at_65)
  refine OwnWp.step st28 ?_
  have Z28 : n0 ≤ h28.size := Nat.le_trans Z26 K28.1
  have F29 : OwnA Z h28 ad8 .long (19 : Int32) (fun i => .long ((ownUpd (ownUpd (ownUpd (ownUpd (ownUpd (ownUpd (ownUpd (ownUpd (ownUpd (ownUpd (fun _ => (0 : Int64)) (0 : Int32).toInt (1 : Int64)) (1 : Int32).toInt (10 : Int64)) (2 : Int32).toInt (100 : Int64)) (3 : Int32).toInt (1000 : Int64)) (4 : Int32).toInt (10000 : Int64)) (5 : Int32).toInt (100000 : Int64)) (6 : Int32).toInt (1000000 : Int64)) (7 : Int32).toInt (10000000 : Int64)) (8 : Int32).toInt (100000000 : Int64)) (9 : Int32).toInt (1000000000 : Int64)) i)) := F28.congr (fun i _ _ => by exact ownUpd_long (ownUpd (ownUpd (ownUpd (ownUpd (ownUpd (ownUpd (ownUpd (ownUpd (ownUpd (fun _ => (0 : Int64)) (0 : Int32).toInt (1 : Int64)) (1 : Int32).toInt (10 : Int64)) (2 : Int32).toInt (100 : Int64)) (3 : Int32).toInt (1000 : Int64)) (4 : Int32).toInt (10000 : Int64)) (5 : Int32).toInt (100000 : Int64)) (6 : Int32).toInt (1000000 : Int64)) (7 : Int32).toInt (10000000 : Int64)) (8 : Int32).toInt (100000000 : Int64)) _ _ i)
  show OwnWp p e below s _ _ _ (T28.setTop (mkF m 66 #[.val (.long p1), .second, .val (.int p2), .unset, .unset, .unset, .unset, .unset, .unset, .unset, .unset, .unset] [(.ref ad8)]))
  refine OwnWp.step (U' := T28.setTop (mkF m 72 #[.val (.long p1), .second, .val (.int p2), .unset, .unset, .unset, .unset, .unset, .unset, .unset, .unset, .unset] [(.long (10000000000 : Int64)), (.int (10 : Int32)), (.ref ad8), (.ref ad8)])) (fun t k => ?_) ?_
  · show Steps p.tables e below (T28.setTop (mkF m 66 #[.val (.long p1), .second, .val (.int p2), .unset, .unset, .unset, .unset, .unset, .unset, .unset, .unset, .unset] [(.ref ad8)])) _
    refine XS.dup X28.here hx rfl (hb hby at_66) rfl rfl ?_
    show Steps p.tables e below (T28.setTop (mkF m 67 #[.val (.long p1), .second, .val (.int p2), .unset, .unset, .unset, .unset, .unset, .unset, .unset, .unset, .unset] [(.ref ad8), (.ref ad8)])) _
    refine XT.bipushV X28.here hx rfl (10 : Int32) (hb hby at_67) rfl ?_
    show Steps p.tables e below (T28.setTop (mkF m 69 #[.val (.long p1), .second, .val (.int p2), .unset, .unset, .unset, .unset, .unset, .unset, .unset, .unset, .unset] [(.int (10 : Int32)), (.ref ad8), (.ref ad8)])) _
    refine X28.ldc2J hx hown (mvT hZ (hw _ (List.mem_of_getElem? (i := 10) rfl))) rfl (hb hby at_69) ?_
    show Steps p.tables e below (T28.setTop (mkF m 72 #[.val (.long p1), .second, .val (.int p2), .unset, .unset, .unset, .unset, .unset, .unset, .unset, .unset, .unset] [(.long (10000000000 : Int64)), (.int (10 : Int32)), (.ref ad8), (.ref ad8)])) _
    exact k
  obtain ⟨T30, h30, L30, X30, e30, N30, K30, F30, st30⟩ := OwnA.stJ X28 hx hZ e28 N28 b8 F29 (by decide) (by decide) (g := (mkF m 72 #[.val (.long p1), .second, .val (.int p2), .unset, .unset, .unset, .unset, .unset, .unset, .unset, .unset, .unset] [(.long (10000000000 : Int64)), (.int (10 : Int32)), (.ref ad8), (.ref ad8)])) rfl rfl (hb hby at_72)
  refine OwnWp.step st30 ?_
  have Z30 : n0 ≤ h30.size := Nat.le_trans Z28 K30.1
  have F31 : OwnA Z h30 ad8 .long (19 : Int32) (fun i => .long ((ownUpd (ownUpd (ownUpd (ownUpd (ownUpd (ownUpd (ownUpd (ownUpd (ownUpd (ownUpd (ownUpd (fun _ => (0 : Int64)) (0 : Int32).toInt (1 : Int64)) (1 : Int32).toInt (10 : Int64)) (2 : Int32).toInt (100 : Int64)) (3 : Int32).toInt (1000 : Int64)) (4 : Int32).toInt (10000 : Int64)) (5 : Int32).toInt (100000 : Int64)) (6 : Int32).toInt (1000000 : Int64)) (7 : Int32).toInt (10000000 : Int64)) (8 : Int32).toInt (100000000 : Int64)) (9 : Int32).toInt (1000000000 : Int64)) (10 : Int32).toInt (10000000000 : Int64)) i)) := F30.congr (fun i _ _ => by exact ownUpd_long (ownUpd (ownUpd (ownUpd (ownUpd (ownUpd (ownUpd (ownUpd (ownUpd (ownUpd (ownUpd (fun _ => (0 : Int64)) (0 : Int32).toInt (1 : Int64)) (1 : Int32).toInt (10 : Int64)) (2 : Int32).toInt (100 : Int64)) (3 : Int32).toInt (1000 : Int64)) (4 : Int32).toInt (10000 : Int64)) (5 : Int32).toInt (100000 : Int64)) (6 : Int32).toInt (1000000 : Int64)) (7 : Int32).toInt (10000000 : Int64)) (8 : Int32).toInt (100000000 : Int64)) (9 : Int32).toInt (1000000000 : Int64)) _ _ i)
  show OwnWp p e below s _ _ _ (T30.setTop (mkF m 73 #[.val (.long p1), .second, .val (.int p2), .unset, .unset, .unset, .unset, .unset, .unset, .unset, .unset, .unset] [(.ref ad8)]))
  refine OwnWp.step (U' := T30.setTop (mkF m 79 #[.val (.long p1), .second, .val (.int p2), .unset, .unset, .unset, .unset, .unset, .unset, .unset, .unset, .unset] [(.long (100000000000 : Int64)), (.int (11 : Int32)), (.ref ad8), (.ref ad8)])) (fun t k => ?_) ?_
  · show Steps p.tables e below (T30.setTop (mkF m 73 #[.val (.long p1), .second, .val (.int p2), .unset, .unset, .unset, .unset, .unset, .unset, .unset, .unset, .unset] [(.ref ad8)])) _
    refine XS.dup X30.here hx rfl (hb hby at_73) rfl rfl ?_
    show Steps p.tables e below (T30.setTop (mkF m 74 #[.val (.long p1), .second, .val (.int p2), .unset, .unset, .unset, .unset, .unset, .unset, .unset, .unset, .unset] [(.ref ad8), (.ref ad8)])) _
    refine XT.bipushV X30.here hx rfl (11 : Int32) (hb hby at_74) rfl ?_
    show Steps p.tables e below (T30.setTop (mkF m 76 #[.val (.long p1), .second, .val (.int p2), .unset, .unset, .unset, .unset, .unset, .unset, .unset, .unset, .unset] [(.int (11 : Int32)), (.ref ad8), (.ref ad8)])) _
    refine X30.ldc2J hx hown (mvT hZ (hw _ (List.mem_of_getElem? (i := 11) rfl))) rfl (hb hby at_76) ?_
    show Steps p.tables e below (T30.setTop (mkF m 79 #[.val (.long p1), .second, .val (.int p2), .unset, .unset, .unset, .unset, .unset, .unset, .unset, .unset, .unset] [(.long (100000000000 : Int64)), (.int (11 : Int32)), (.ref ad8), (.ref ad8)])) _
    exact k
  obtain ⟨T32, h32, L32, X32, e32, N32, K32, F32, st32⟩ := OwnA.stJ X30 hx hZ e30 N30 b8 F31 (by decide) (by decide) (g := (mkF m 79 #[.val (.long p1), .second, .val (.int p2), .unset, .unset, .unset, .unset, .unset, .unset, .unset, .unset, .unset] [(.long (100000000000 : Int64)), (.int (11 : Int32)), (.ref ad8), (.ref ad8)])) rfl rfl (hb hby at_79)
  refine OwnWp.step st32 ?_
  have Z32 : n0 ≤ h32.size := Nat.le_trans Z30 K32.1
  have F33 : OwnA Z h32 ad8 .long (19 : Int32) (fun i => .long ((ownUpd (ownUpd (ownUpd (ownUpd (ownUpd (ownUpd (ownUpd (ownUpd (ownUpd (ownUpd (ownUpd (ownUpd (fun _ => (0 : Int64)) (0 : Int32).toInt (1 : Int64)) (1 : Int32).toInt (10 : Int64)) (2 : Int32).toInt (100 : Int64)) (3 : Int32).toInt (1000 : Int64)) (4 : Int32).toInt (10000 : Int64)) (5 : Int32).toInt (100000 : Int64)) (6 : Int32).toInt (1000000 : Int64)) (7 : Int32).toInt (10000000 : Int64)) (8 : Int32).toInt (100000000 : Int64)) (9 : Int32).toInt (1000000000 : Int64)) (10 : Int32).toInt (10000000000 : Int64)) (11 : Int32).toInt (100000000000 : Int64)) i)) := F32.congr (fun i _ _ => by exact ownUpd_long (ownUpd (ownUpd (ownUpd (ownUpd (ownUpd (ownUpd (ownUpd (ownUpd (ownUpd (ownUpd (ownUpd (fun _ => (0 : Int64)) (0 : Int32).toInt (1 : Int64)) (1 : Int32).toInt (10 : Int64)) (2 : Int32).toInt (100 : Int64)) (3 : Int32).toInt (1000 : Int64)) (4 : Int32).toInt (10000 : Int64)) (5 : Int32).toInt (100000 : Int64)) (6 : Int32).toInt (1000000 : Int64)) (7 : Int32).toInt (10000000 : Int64)) (8 : Int32).toInt (100000000 : Int64)) (9 : Int32).toInt (1000000000 : Int64)) (10 : Int32).toInt (10000000000 : Int64)) _ _ i)
  show OwnWp p e below s _ _ _ (T32.setTop (mkF m 80 #[.val (.long p1), .second, .val (.int p2), .unset, .unset, .unset, .unset, .unset, .unset, .unset, .unset, .unset] [(.ref ad8)]))
  refine OwnWp.step (U' := T32.setTop (mkF m 86 #[.val (.long p1), .second, .val (.int p2), .unset, .unset, .unset, .unset, .unset, .unset, .unset, .unset, .unset] [(.long (1000000000000 : Int64)), (.int (12 : Int32)), (.ref ad8), (.ref ad8)])) (fun t k => ?_) ?_
  · show Steps p.tables e below (T32.setTop (mkF m 80 #[.val (.long p1), .second, .val (.int p2), .unset, .unset, .unset, .unset, .unset, .unset, .unset, .unset, .unset] [(.ref ad8)])) _
    refine XS.dup X32.here hx rfl (hb hby at_80) rfl rfl ?_
    show Steps p.tables e below (T32.setTop (mkF m 81 #[.val (.long p1), .second, .val (.int p2), .unset, .unset, .unset, .unset, .unset, .unset, .unset, .unset, .unset] [(.ref ad8), (.ref ad8)])) _
    refine XT.bipushV X32.here hx rfl (12 : Int32) (hb hby at_81) rfl ?_
    show Steps p.tables e below (T32.setTop (mkF m 83 #[.val (.long p1), .second, .val (.int p2), .unset, .unset, .unset, .unset, .unset, .unset, .unset, .unset, .unset] [(.int (12 : Int32)), (.ref ad8), (.ref ad8)])) _
    refine X32.ldc2J hx hown (mvT hZ (hw _ (List.mem_of_getElem? (i := 12) rfl))) rfl (hb hby at_83) ?_
    show Steps p.tables e below (T32.setTop (mkF m 86 #[.val (.long p1), .second, .val (.int p2), .unset, .unset, .unset, .unset, .unset, .unset, .unset, .unset, .unset] [(.long (1000000000000 : Int64)), (.int (12 : Int32)), (.ref ad8), (.ref ad8)])) _
    exact k
  obtain ⟨T34, h34, L34, X34, e34, N34, K34, F34, st34⟩ := OwnA.stJ X32 hx hZ e32 N32 b8 F33 (by decide) (by decide) (g := (mkF m 86 #[.val (.long p1), .second, .val (.int p2), .unset, .unset, .unset, .unset, .unset, .unset, .unset, .unset, .unset] [(.long (1000000000000 : Int64)), (.int (12 : Int32)), (.ref ad8), (.ref ad8)])) rfl rfl (hb hby at_86)
  refine OwnWp.step st34 ?_
  have Z34 : n0 ≤ h34.size := Nat.le_trans Z32 K34.1
  have F35 : OwnA Z h34 ad8 .long (19 : Int32) (fun i => .long ((ownUpd (ownUpd (ownUpd (ownUpd (ownUpd (ownUpd (ownUpd (ownUpd (ownUpd (ownUpd (ownUpd (ownUpd (ownUpd (fun _ => (0 : Int64)) (0 : Int32).toInt (1 : Int64)) (1 : Int32).toInt (10 : Int64)) (2 : Int32).toInt (100 : Int64)) (3 : Int32).toInt (1000 : Int64)) (4 : Int32).toInt (10000 : Int64)) (5 : Int32).toInt (100000 : Int64)) (6 : Int32).toInt (1000000 : Int64)) (7 : Int32).toInt (10000000 : Int64)) (8 : Int32).toInt (100000000 : Int64)) (9 : Int32).toInt (1000000000 : Int64)) (10 : Int32).toInt (10000000000 : Int64)) (11 : Int32).toInt (100000000000 : Int64)) (12 : Int32).toInt (1000000000000 : Int64)) i)) := F34.congr (fun i _ _ => by exact ownUpd_long (ownUpd (ownUpd (ownUpd (ownUpd (ownUpd (ownUpd (ownUpd (ownUpd (ownUpd (ownUpd (ownUpd (ownUpd (fun _ => (0 : Int64)) (0 : Int32).toInt (1 : Int64)) (1 : Int32).toInt (10 : Int64)) (2 : Int32).toInt (100 : Int64)) (3 : Int32).toInt (1000 : Int64)) (4 : Int32).toInt (10000 : Int64)) (5 : Int32).toInt (100000 : Int64)) (6 : Int32).toInt (1000000 : Int64)) (7 : Int32).toInt (10000000 : Int64)) (8 : Int32).toInt (100000000 : Int64)) (9 : Int32).toInt (1000000000 : Int64)) (10 : Int32).toInt (10000000000 : Int64)) (11 : Int32).toInt (100000000000 : Int64)) _ _ i)
  show OwnWp p e below s _ _ _ (T34.setTop (mkF m 87 #[.val (.long p1), .second, .val (.int p2), .unset, .unset, .unset, .unset, .unset, .unset, .unset, .unset, .unset] [(.ref ad8)]))
  refine OwnWp.step (U' := T34.setTop (mkF m 93 #[.val (.long p1), .second, .val (.int p2), .unset, .unset, .unset, .unset, .unset, .unset, .unset, .unset, .unset] [(.long (10000000000000 : Int64)), (.int (13 : Int32)), (.ref ad8), (.ref ad8)])) (fun t k => ?_) ?_
  · show Steps p.tables e below (T34.setTop (mkF m 87 #[.val (.long p1), .second, .val (.int p2), .unset, .unset, .unset, .unset, .unset, .unset, .unset, .unset, .unset] [(.ref ad8)])) _
    refine XS.dup X34.here hx rfl (hb hby at_87) rfl rfl ?_
    show Steps p.tables e below (T34.setTop (mkF m 88 #[.val (.long p1), .second, .val (.int p2), .unset, .unset, .unset, .unset, .unset, .unset, .unset, .unset, .unset] [(.ref ad8), (.ref ad8)])) _
    refine XT.bipushV X34.here hx rfl (13 : Int32) (hb hby at_88) rfl ?_
    show Steps p.tables e below (T34.setTop (mkF m 90 #[.val (.long p1), .second, .val (.int p2), .unset, .unset, .unset, .unset, .unset, .unset, .unset, .unset, .unset] [(.int (13 : Int32)), (.ref ad8), (.ref ad8)])) _
    refine X34.ldc2J hx hown (mvT hZ (hw _ (List.mem_of_getElem? (i := 13) rfl))) rfl (hb hby at_90) ?_
    show Steps p.tables e below (T34.setTop (mkF m 93 #[.val (.long p1), .second, .val (.int p2), .unset, .unset, .unset, .unset, .unset, .unset, .unset, .unset, .unset] [(.long (10000000000000 : Int64)), (.int (13 : Int32)), (.ref ad8), (.ref ad8)])) _
    exact k
  obtain ⟨T36, h36, L36, X36, e36, N36, K36, F36, st36⟩ := OwnA.stJ X34 hx hZ e34 N34 b8 F35 (by decide) (by decide) (g := (mkF m 93 #[.val (.long p1), .second, .val (.int p2), .unset, .unset, .unset, .unset, .unset, .unset, .unset, .unset, .unset] [(.long (10000000000000 : Int64)), (.int (13 : Int32)), (.ref ad8), (.ref ad8)])) rfl rfl (hb hby at_93)
  refine OwnWp.step st36 ?_
  have Z36 : n0 ≤ h36.size := Nat.le_trans Z34 K36.1
  have F37 : OwnA Z h36 ad8 .long (19 : Int32) (fun i => .long ((ownUpd (ownUpd (ownUpd (ownUpd (ownUpd (ownUpd (ownUpd (ownUpd (ownUpd (ownUpd (ownUpd (ownUpd (ownUpd (ownUpd (fun _ => (0 : Int64)) (0 : Int32).toInt (1 : Int64)) (1 : Int32).toInt (10 : Int64)) (2 : Int32).toInt (100 : Int64)) (3 : Int32).toInt (1000 : Int64)) (4 : Int32).toInt (10000 : Int64)) (5 : Int32).toInt (100000 : Int64)) (6 : Int32).toInt (1000000 : Int64)) (7 : Int32).toInt (10000000 : Int64)) (8 : Int32).toInt (100000000 : Int64)) (9 : Int32).toInt (1000000000 : Int64)) (10 : Int32).toInt (10000000000 : Int64)) (11 : Int32).toInt (100000000000 : Int64)) (12 : Int32).toInt (1000000000000 : Int64)) (13 : Int32).toInt (10000000000000 : Int64)) i)) := F36.congr (fun i _ _ => by exact ownUpd_long (ownUpd (ownUpd (ownUpd (ownUpd (ownUpd (ownUpd (ownUpd (ownUpd (ownUpd (ownUpd (ownUpd (ownUpd (ownUpd (fun _ => (0 : Int64)) (0 : Int32).toInt (1 : Int64)) (1 : Int32).toInt (10 : Int64)) (2 : Int32).toInt (100 : Int64)) (3 : Int32).toInt (1000 : Int64)) (4 : Int32).toInt (10000 : Int64)) (5 : Int32).toInt (100000 : Int64)) (6 : Int32).toInt (1000000 : Int64)) (7 : Int32).toInt (10000000 : Int64)) (8 : Int32).toInt (100000000 : Int64)) (9 : Int32).toInt (1000000000 : Int64)) (10 : Int32).toInt (10000000000 : Int64)) (11 : Int32).toInt (100000000000 : Int64)) (12 : Int32).toInt (1000000000000 : Int64)) _ _ i)
  show OwnWp p e below s _ _ _ (T36.setTop (mkF m 94 #[.val (.long p1), .second, .val (.int p2), .unset, .unset, .unset, .unset, .unset, .unset, .unset, .unset, .unset] [(.ref ad8)]))
  refine OwnWp.step (U' := T36.setTop (mkF m 100 #[.val (.long p1), .second, .val (.int p2), .unset, .unset, .unset, .unset, .unset, .unset, .unset, .unset, .unset] [(.long (100000000000000 : Int64)), (.int (14 : Int32)), (.ref ad8), (.ref ad8)])) (fun t k => ?_) ?_
  · show Steps p.tables e below (T36.setTop (mkF m 94 #[.val (.long p1), .second, .val (.int p2), .unset, .unset, .unset, .unset, .unset, .unset, .unset, .unset, .unset] [(.ref ad8)])) _
    refine XS.dup X36.here hx rfl (hb hby at_94) rfl rfl ?_
    show Steps p.tables e below (T36.setTop (mkF m 95 #[.val (.long p1), .second, .val (.int p2), .unset, .unset, .unset, .unset, .unset, .unset, .unset, .unset, .unset] [(.ref ad8), (.ref ad8)])) _
    refine XT.bipushV X36.here hx rfl (14 : Int32) (hb hby at_95) rfl ?_
    show Steps p.tables e below (T36.setTop (mkF m 97 #[.val (.long p1), .second, .val (.int p2), .unset, .unset, .unset, .unset, .unset, .unset, .unset, .unset, .unset] [(.int (14 : Int32)), (.ref ad8), (.ref ad8)])) _
    refine X36.ldc2J hx hown (mvT hZ (hw _ (List.mem_of_getElem? (i := 14) rfl))) rfl (hb hby at_97) ?_
    show Steps p.tables e below (T36.setTop (mkF m 100 #[.val (.long p1), .second, .val (.int p2), .unset, .unset, .unset, .unset, .unset, .unset, .unset, .unset, .unset] [(.long (100000000000000 : Int64)), (.int (14 : Int32)), (.ref ad8), (.ref ad8)])) _
    exact k
  obtain ⟨T38, h38, L38, X38, e38, N38, K38, F38, st38⟩ := OwnA.stJ X36 hx hZ e36 N36 b8 F37 (by decide) (by decide) (g := (mkF m 100 #[.val (.long p1), .second, .val (.int p2), .unset, .unset, .unset, .unset, .unset, .unset, .unset, .unset, .unset] [(.long (100000000000000 : Int64)), (.int (14 : Int32)), (.ref ad8), (.ref ad8)])) rfl rfl (hb hby at_100)
  refine OwnWp.step st38 ?_
  have Z38 : n0 ≤ h38.size := Nat.le_trans Z36 K38.1
  have F39 : OwnA Z h38 ad8 .long (19 : Int32) (fun i => .long ((ownUpd (ownUpd (ownUpd (ownUpd (ownUpd (ownUpd (ownUpd (ownUpd (ownUpd (ownUpd (ownUpd (ownUpd (ownUpd (ownUpd (ownUpd (fun _ => (0 : Int64)) (0 : Int32).toInt (1 : Int64)) (1 : Int32).toInt (10 : Int64)) (2 : Int32).toInt (100 : Int64)) (3 : Int32).toInt (1000 : Int64)) (4 : Int32).toInt (10000 : Int64)) (5 : Int32).toInt (100000 : Int64)) (6 : Int32).toInt (1000000 : Int64)) (7 : Int32).toInt (10000000 : Int64)) (8 : Int32).toInt (100000000 : Int64)) (9 : Int32).toInt (1000000000 : Int64)) (10 : Int32).toInt (10000000000 : Int64)) (11 : Int32).toInt (100000000000 : Int64)) (12 : Int32).toInt (1000000000000 : Int64)) (13 : Int32).toInt (10000000000000 : Int64)) (14 : Int32).toInt (100000000000000 : Int64)) i)) := F38.congr (fun i _ _ => by exact ownUpd_long (ownUpd (ownUpd (ownUpd (ownUpd (ownUpd (ownUpd (ownUpd (ownUpd (ownUpd (ownUpd (ownUpd (ownUpd (ownUpd (ownUpd (fun _ => (0 : Int64)) (0 : Int32).toInt (1 : Int64)) (1 : Int32).toInt (10 : Int64)) (2 : Int32).toInt (100 : Int64)) (3 : Int32).toInt (1000 : Int64)) (4 : Int32).toInt (10000 : Int64)) (5 : Int32).toInt (100000 : Int64)) (6 : Int32).toInt (1000000 : Int64)) (7 : Int32).toInt (10000000 : Int64)) (8 : Int32).toInt (100000000 : Int64)) (9 : Int32).toInt (1000000000 : Int64)) (10 : Int32).toInt (10000000000 : Int64)) (11 : Int32).toInt (100000000000 : Int64)) (12 : Int32).toInt (1000000000000 : Int64)) (13 : Int32).toInt (10000000000000 : Int64)) _ _ i)
  show OwnWp p e below s _ _ _ (T38.setTop (mkF m 101 #[.val (.long p1), .second, .val (.int p2), .unset, .unset, .unset, .unset, .unset, .unset, .unset, .unset, .unset] [(.ref ad8)]))
  refine OwnWp.step (U' := T38.setTop (mkF m 107 #[.val (.long p1), .second, .val (.int p2), .unset, .unset, .unset, .unset, .unset, .unset, .unset, .unset, .unset] [(.long (1000000000000000 : Int64)), (.int (15 : Int32)), (.ref ad8), (.ref ad8)])) (fun t k => ?_) ?_
  · show Steps p.tables e below (T38.setTop (mkF m 101 #[.val (.long p1), .second, .val (.int p2), .unset, .unset, .unset, .unset, .unset, .unset, .unset, .unset, .unset] [(.ref ad8)])) _
    refine XS.dup X38.here hx rfl (hb hby at_101) rfl rfl ?_
    show Steps p.tables e below (T38.setTop (mkF m 102 #[.val (.long p1), .second, .val (.int p2), .unset, .unset, .unset, .unset, .unset, .unset, .unset, .unset, .unset] [(.ref ad8), (.ref ad8)])) _
    refine XT.bipushV X38.here hx rfl (15 : Int32) (hb hby at_102) rfl ?_
    show Steps p.tables e below (T38.setTop (mkF m 104 #[.val (.long p1), .second, .val (.int p2), .unset, .unset, .unset, .unset, .unset, .unset, .unset, .unset, .unset] [(.int (15 : Int32)), (.ref ad8), (.ref ad8)])) _
    refine X38.ldc2J hx hown (mvT hZ (hw _ (List.mem_of_getElem? (i := 15) rfl))) rfl (hb hby at_104) ?_
    show Steps p.tables e below (T38.setTop (mkF m 107 #[.val (.long p1), .second, .val (.int p2), .unset, .unset, .unset, .unset, .unset, .unset, .unset, .unset, .unset] [(.long (1000000000000000 : Int64)), (.int (15 : Int32)), (.ref ad8), (.ref ad8)])) _
    exact k
  obtain ⟨T40, h40, L40, X40, e40, N40, K40, F40, st40⟩ := OwnA.stJ X38 hx hZ e38 N38 b8 F39 (by decide) (by decide) (g := (mkF m 107 #[.val (.long p1), .second, .val (.int p2), .unset, .unset, .unset, .unset, .unset, .unset, .unset, .unset, .unset] [(.long (1000000000000000 : Int64)), (.int (15 : Int32)), (.ref ad8), (.ref ad8)])) rfl rfl (hb hby at_107)
  refine OwnWp.step st40 ?_
  have Z40 : n0 ≤ h40.size := Nat.le_trans Z38 K40.1
  have F41 : OwnA Z h40 ad8 .long (19 : Int32) (fun i => .long ((ownUpd (ownUpd (ownUpd (ownUpd (ownUpd (ownUpd (ownUpd (ownUpd (ownUpd (ownUpd (ownUpd (ownUpd (ownUpd (ownUpd (ownUpd (ownUpd (fun _ => (0 : Int64)) (0 : Int32).toInt (1 : Int64)) (1 : Int32).toInt (10 : Int64)) (2 : Int32).toInt (100 : Int64)) (3 : Int32).toInt (1000 : Int64)) (4 : Int32).toInt (10000 : Int64)) (5 : Int32).toInt (100000 : Int64)) (6 : Int32).toInt (1000000 : Int64)) (7 : Int32).toInt (10000000 : Int64)) (8 : Int32).toInt (100000000 : Int64)) (9 : Int32).toInt (1000000000 : Int64)) (10 : Int32).toInt (10000000000 : Int64)) (11 : Int32).toInt (100000000000 : Int64)) (12 : Int32).toInt (1000000000000 : Int64)) (13 : Int32).toInt (10000000000000 : Int64)) (14 : Int32).toInt (100000000000000 : Int64)) (15 : Int32).toInt (1000000000000000 : Int64)) i)) := F40.congr (fun i _ _ => by exact ownUpd_long (ownUpd (ownUpd (ownUpd (ownUpd (ownUpd (ownUpd (ownUpd (ownUpd (ownUpd (ownUpd (ownUpd (ownUpd (ownUpd (ownUpd (ownUpd (fun _ => (0 : Int64)) (0 : Int32).toInt (1 : Int64)) (1 : Int32).toInt (10 : Int64)) (2 : Int32).toInt (100 : Int64)) (3 : Int32).toInt (1000 : Int64)) (4 : Int32).toInt (10000 : Int64)) (5 : Int32).toInt (100000 : Int64)) (6 : Int32).toInt (1000000 : Int64)) (7 : Int32).toInt (10000000 : Int64)) (8 : Int32).toInt (100000000 : Int64)) (9 : Int32).toInt (1000000000 : Int64)) (10 : Int32).toInt (10000000000 : Int64)) (11 : Int32).toInt (100000000000 : Int64)) (12 : Int32).toInt (1000000000000 : Int64)) (13 : Int32).toInt (10000000000000 : Int64)) (14 : Int32).toInt (100000000000000 : Int64)) _ _ i)
  show OwnWp p e below s _ _ _ (T40.setTop (mkF m 108 #[.val (.long p1), .second, .val (.int p2), .unset, .unset, .unset, .unset, .unset, .unset, .unset, .unset, .unset] [(.ref ad8)]))
  refine OwnWp.step (U' := T40.setTop (mkF m 114 #[.val (.long p1), .second, .val (.int p2), .unset, .unset, .unset, .unset, .unset, .unset, .unset, .unset, .unset] [(.long (10000000000000000 : Int64)), (.int (16 : Int32)), (.ref ad8), (.ref ad8)])) (fun t k => ?_) ?_
  · show Steps p.tables e below (T40.setTop (mkF m 108 #[.val (.long p1), .second, .val (.int p2), .unset, .unset, .unset, .unset, .unset, .unset, .unset, .unset, .unset] [(.ref ad8)])) _
    refine XS.dup X40.here hx rfl (hb hby at_108) rfl rfl ?_
    show Steps p.tables e below (T40.setTop (mkF m 109 #[.val (.long p1), .second, .val (.int p2), .unset, .unset, .unset, .unset, .unset, .unset, .unset, .unset, .unset] [(.ref ad8), (.ref ad8)])) _
    refine XT.bipushV X40.here hx rfl (16 : Int32) (hb hby at_109) rfl ?_
    show Steps p.tables e below (T40.setTop (mkF m 111 #[.val (.long p1), .second, .val (.int p2), .unset, .unset, .unset, .unset, .unset, .unset, .unset, .unset, .unset] [(.int (16 : Int32)), (.ref ad8), (.ref ad8)])) _
    refine X40.ldc2J hx hown (mvT hZ (hw _ (List.mem_of_getElem? (i := 16) rfl))) rfl (hb hby at_111) ?_
    show Steps p.tables e below (T40.setTop (mkF m 114 #[.val (.long p1), .second, .val (.int p2), .unset, .unset, .unset, .unset, .unset, .unset, .unset, .unset, .unset] [(.long (10000000000000000 : Int64)), (.int (16 : Int32)), (.ref ad8), (.ref ad8)])) _
    exact k
  obtain ⟨T42, h42, L42, X42, e42, N42, K42, F42, st42⟩ := OwnA.stJ X40 hx hZ e40 N40 b8 F41 (by decide) (by decide) (g := (mkF m 114 #[.val (.long p1), .second, .val (.int p2), .unset, .unset, .unset, .unset, .unset, .unset, .unset, .unset, .unset] [(.long (10000000000000000 : Int64)), (.int (16 : Int32)), (.ref ad8), (.ref ad8)])) rfl rfl (hb hby at_114)
  refine OwnWp.step st42 ?_
  have Z42 : n0 ≤ h42.size := Nat.le_trans Z40 K42.1
  have F43 : OwnA Z h42 ad8 .long (19 : Int32) (fun i => .long ((ownUpd (ownUpd (ownUpd (ownUpd (ownUpd (ownUpd (ownUpd (ownUpd (ownUpd (ownUpd (ownUpd (ownUpd (ownUpd (ownUpd (ownUpd (ownUpd (ownUpd (fun _ => (0 : Int64)) (0 : Int32).toInt (1 : Int64)) (1 : Int32).toInt (10 : Int64)) (2 : Int32).toInt (100 : Int64)) (3 : Int32).toInt (1000 : Int64)) (4 : Int32).toInt (10000 : Int64)) (5 : Int32).toInt (100000 : Int64)) (6 : Int32).toInt (1000000 : Int64)) (7 : Int32).toInt (10000000 : Int64)) (8 : Int32).toInt (100000000 : Int64)) (9 : Int32).toInt (1000000000 : Int64)) (10 : Int32).toInt (10000000000 : Int64)) (11 : Int32).toInt (100000000000 : Int64)) (12 : Int32).toInt (1000000000000 : Int64)) (13 : Int32).toInt (10000000000000 : Int64)) (14 : Int32).toInt (100000000000000 : Int64)) (15 : Int32).toInt (1000000000000000 : Int64)) (16 : Int32).toInt (10000000000000000 : Int64)) i)) := F42.congr (fun i _ _ => by exact ownUpd_long (ownUpd (ownUpd (ownUpd (ownUpd (ownUpd (ownUpd (ownUpd (ownUpd (ownUpd (ownUpd (ownUpd (ownUpd (ownUpd (ownUpd (ownUpd (ownUpd (fun _ => (0 : Int64)) (0 : Int32).toInt (1 : Int64)) (1 : Int32).toInt (10 : Int64)) (2 : Int32).toInt (100 : Int64)) (3 : Int32).toInt (1000 : Int64)) (4 : Int32).toInt (10000 : Int64)) (5 : Int32).toInt (100000 : Int64)) (6 : Int32).toInt (1000000 : Int64)) (7 : Int32).toInt (10000000 : Int64)) (8 : Int32).toInt (100000000 : Int64)) (9 : Int32).toInt (1000000000 : Int64)) (10 : Int32).toInt (10000000000 : Int64)) (11 : Int32).toInt (100000000000 : Int64)) (12 : Int32).toInt (1000000000000 : Int64)) (13 : Int32).toInt (10000000000000 : Int64)) (14 : Int32).toInt (100000000000000 : Int64)) (15 : Int32).toInt (1000000000000000 : Int64)) _ _ i)
  show OwnWp p e below s _ _ _ (T42.setTop (mkF m 115 #[.val (.long p1), .second, .val (.int p2), .unset, .unset, .unset, .unset, .unset, .unset, .unset, .unset, .unset] [(.ref ad8)]))
  refine OwnWp.step (U' := T42.setTop (mkF m 121 #[.val (.long p1), .second, .val (.int p2), .unset, .unset, .unset, .unset, .unset, .unset, .unset, .unset, .unset] [(.long (100000000000000000 : Int64)), (.int (17 : Int32)), (.ref ad8), (.ref ad8)])) (fun t k => ?_) ?_
  · show Steps p.tables e below (T42.setTop (mkF m 115 #[.val (.long p1), .second, .val (.int p2), .unset, .unset, .unset, .unset, .unset, .unset, .unset, .unset, .unset] [(.ref ad8)])) _
    refine XS.dup X42.here hx rfl (hb hby at_115) rfl rfl ?_
    show Steps p.tables e below (T42.setTop (mkF m 116 #[.val (.long p1), .second, .val (.int p2), .unset, .unset, .unset, .unset, .unset, .unset, .unset, .unset, .unset] [(.ref ad8), (.ref ad8)])) _
    refine XT.bipushV X42.here hx rfl (17 : Int32) (hb hby at_116) rfl ?_
    show Steps p.tables e below (T42.setTop (mkF m 118 #[.val (.long p1), .second, .val (.int p2), .unset, .unset, .unset, .unset, .unset, .unset, .unset, .unset, .unset] [(.int (17 : Int32)), (.ref ad8), (.ref ad8)])) _
    refine X42.ldc2J hx hown (mvT hZ (hw _ (List.mem_of_getElem? (i := 17) rfl))) rfl (hb hby at_118) ?_
    show Steps p.tables e below (T42.setTop (mkF m 121 #[.val (.long p1), .second, .val (.int p2), .unset, .unset, .unset, .unset, .unset, .unset, .unset, .unset, .unset] [(.long (100000000000000000 : Int64)), (.int (17 : Int32)), (.ref ad8), (.ref ad8)])) _
    exact k
  obtain ⟨T44, h44, L44, X44, e44, N44, K44, F44, st44⟩ := OwnA.stJ X42 hx hZ e42 N42 b8 F43 (by decide) (by decide) (g := (mkF m 121 #[.val (.long p1), .second, .val (.int p2), .unset, .unset, .unset, .unset, .unset, .unset, .unset, .unset, .unset] [(.long (100000000000000000 : Int64)), (.int (17 : Int32)), (.ref ad8), (.ref ad8)])) rfl rfl (hb hby at_121)
  refine OwnWp.step st44 ?_
  have Z44 : n0 ≤ h44.size := Nat.le_trans Z42 K44.1
  have F45 : OwnA Z h44 ad8 .long (19 : Int32) (fun i => .long ((ownUpd (ownUpd (ownUpd (ownUpd (ownUpd (ownUpd (ownUpd (ownUpd (ownUpd (ownUpd (ownUpd (ownUpd (ownUpd (ownUpd (ownUpd (ownUpd (ownUpd (ownUpd (fun _ => (0 : Int64)) (0 : Int32).toInt (1 : Int64)) (1 : Int32).toInt (10 : Int64)) (2 : Int32).toInt (100 : Int64)) (3 : Int32).toInt (1000 : Int64)) (4 : Int32).toInt (10000 : Int64)) (5 : Int32).toInt (100000 : Int64)) (6 : Int32).toInt (1000000 : Int64)) (7 : Int32).toInt (10000000 : Int64)) (8 : Int32).toInt (100000000 : Int64)) (9 : Int32).toInt (1000000000 : Int64)) (10 : Int32).toInt (10000000000 : Int64)) (11 : Int32).toInt (100000000000 : Int64)) (12 : Int32).toInt (1000000000000 : Int64)) (13 : Int32).toInt (10000000000000 : Int64)) (14 : Int32).toInt (100000000000000 : Int64)) (15 : Int32).toInt (1000000000000000 : Int64)) (16 : Int32).toInt (10000000000000000 : Int64)) (17 : Int32).toInt (100000000000000000 : Int64)) i)) := F44.congr (fun i _ _ => by exact ownUpd_long (ownUpd (ownUpd (ownUpd (ownUpd (ownUpd (ownUpd (ownUpd (ownUpd (ownUpd (ownUpd (ownUpd (ownUpd (ownUpd (ownUpd (ownUpd (ownUpd (ownUpd (fun _ => (0 : Int64)) (0 : Int32).toInt (1 : Int64)) (1 : Int32).toInt (10 : Int64)) (2 : Int32).toInt (100 : Int64)) (3 : Int32).toInt (1000 : Int64)) (4 : Int32).toInt (10000 : Int64)) (5 : Int32).toInt (100000 : Int64)) (6 : Int32).toInt (1000000 : Int64)) (7 : Int32).toInt (10000000 : Int64)) (8 : Int32).toInt (100000000 : Int64)) (9 : Int32).toInt (1000000000 : Int64)) (10 : Int32).toInt (10000000000 : Int64)) (11 : Int32).toInt (100000000000 : Int64)) (12 : Int32).toInt (1000000000000 : Int64)) (13 : Int32).toInt (10000000000000 : Int64)) (14 : Int32).toInt (100000000000000 : Int64)) (15 : Int32).toInt (1000000000000000 : Int64)) (16 : Int32).toInt (10000000000000000 : Int64)) _ _ i)
  show OwnWp p e below s _ _ _ (T44.setTop (mkF m 122 #[.val (.long p1), .second, .val (.int p2), .unset, .unset, .unset, .unset, .unset, .unset, .unset, .unset, .unset] [(.ref ad8)]))
  refine OwnWp.step (U' := T44.setTop (mkF m 128 #[.val (.long p1), .second, .val (.int p2), .unset, .unset, .unset, .unset, .unset, .unset, .unset, .unset, .unset] [(.long (1000000000000000000 : Int64)), (.int (18 : Int32)), (.ref ad8), (.ref ad8)])) (fun t k => ?_) ?_
  · show Steps p.tables e below (T44.setTop (mkF m 122 #[.val (.long p1), .second, .val (.int p2), .unset, .unset, .unset, .unset, .unset, .unset, .unset, .unset, .unset] [(.ref ad8)])) _
    refine XS.dup X44.here hx rfl (hb hby at_122) rfl rfl ?_
    show Steps p.tables e below (T44.setTop (mkF m 123 #[.val (.long p1), .second, .val (.int p2), .unset, .unset, .unset, .unset, .unset, .unset, .unset, .unset, .unset] [(.ref ad8), (.ref ad8)])) _
    refine XT.bipushV X44.here hx rfl (18 : Int32) (hb hby at_123) rfl ?_
    show Steps p.tables e below (T44.setTop (mkF m 125 #[.val (.long p1), .second, .val (.int p2), .unset, .unset, .unset, .unset, .unset, .unset, .unset, .unset, .unset] [(.int (18 : Int32)), (.ref ad8), (.ref ad8)])) _
    refine X44.ldc2J hx hown (mvT hZ (hw _ (List.mem_of_getElem? (i := 18) rfl))) rfl (hb hby at_125) ?_
    show Steps p.tables e below (T44.setTop (mkF m 128 #[.val (.long p1), .second, .val (.int p2), .unset, .unset, .unset, .unset, .unset, .unset, .unset, .unset, .unset] [(.long (1000000000000000000 : Int64)), (.int (18 : Int32)), (.ref ad8), (.ref ad8)])) _
    exact k
  obtain ⟨T46, h46, L46, X46, e46, N46, K46, F46, st46⟩ := OwnA.stJ X44 hx hZ e44 N44 b8 F45 (by decide) (by decide) (g := (mkF m 128 #[.val (.long p1), .second, .val (.int p2), .unset, .unset, .unset, .unset, .unset, .unset, .unset, .unset, .unset] [(.long (1000000000000000000 : Int64)), (.int (18 : Int32)), (.ref ad8), (.ref ad8)])) rfl rfl (hb hby at_128)
  refine OwnWp.step st46 ?_
  have Z46 : n0 ≤ h46.size := Nat.le_trans Z44 K46.1
  have F47 : OwnA Z h46 ad8 .long (19 : Int32) (fun i => .long ((ownUpd (ownUpd (ownUpd (ownUpd (ownUpd (ownUpd (ownUpd (ownUpd (ownUpd (ownUpd (ownUpd (ownUpd (ownUpd (ownUpd (ownUpd (ownUpd (ownUpd (ownUpd (ownUpd (fun _ => (0 : Int64)) (0 : Int32).toInt (1 : Int64)) (1 : Int32).toInt (10 : Int64)) (2 : Int32).toInt (100 : Int64)) (3 : Int32).toInt (1000 : Int64)) (4 : Int32).toInt (10000 : Int64)) (5 : Int32).toInt (100000 : Int64)) (6 : Int32).toInt (1000000 : Int64)) (7 : Int32).toInt (10000000 : Int64)) (8 : Int32).toInt (100000000 : Int64)) (9 : Int32).toInt (1000000000 : Int64)) (10 : Int32).toInt (10000000000 : Int64)) (11 : Int32).toInt (100000000000 : Int64)) (12 : Int32).toInt (1000000000000 : Int64)) (13 : Int32).toInt (10000000000000 : Int64)) (14 : Int32).toInt (100000000000000 : Int64)) (15 : Int32).toInt (1000000000000000 : Int64)) (16 : Int32).toInt (10000000000000000 : Int64)) (17 : Int32).toInt (100000000000000000 : Int64)) (18 : Int32).toInt (1000000000000000000 : Int64)) i)) := F46.congr (fun i _ _ => by exact ownUpd_long (ownUpd (ownUpd (ownUpd (ownUpd (ownUpd (ownUpd (ownUpd (ownUpd (ownUpd (ownUpd (ownUpd (ownUpd (ownUpd (ownUpd (ownUpd (ownUpd (ownUpd (ownUpd (fun _ => (0 : Int64)) (0 : Int32).toInt (1 : Int64)) (1 : Int32).toInt (10 : Int64)) (2 : Int32).toInt (100 : Int64)) (3 : Int32).toInt (1000 : Int64)) (4 : Int32).toInt (10000 : Int64)) (5 : Int32).toInt (100000 : Int64)) (6 : Int32).toInt (1000000 : Int64)) (7 : Int32).toInt (10000000 : Int64)) (8 : Int32).toInt (100000000 : Int64)) (9 : Int32).toInt (1000000000 : Int64)) (10 : Int32).toInt (10000000000 : Int64)) (11 : Int32).toInt (100000000000 : Int64)) (12 : Int32).toInt (1000000000000 : Int64)) (13 : Int32).toInt (10000000000000 : Int64)) (14 : Int32).toInt (100000000000000 : Int64)) (15 : Int32).toInt (1000000000000000 : Int64)) (16 : Int32).toInt (10000000000000000 : Int64)) (17 : Int32).toInt (100000000000000000 : Int64)) _ _ i)
  show OwnWp p e below s _ _ _ (T46.setTop (mkF m 129 #[.val (.long p1), .second, .val (.int p2), .unset, .unset, .unset, .unset, .unset, .unset, .unset, .unset, .unset] [(.ref ad8)]))
  have Fp := OwnA.congr F47 own_fill
  refine OwnWp.step (U' := T46.setTop (mkF m 133 #[.val (.long p1), .second, .val (.int p2), .val (.ref ad8), .unset, .unset, .unset, .unset, .unset, .unset, .unset, .unset] [(.int (p2 &&& (1 : Int32)))])) (fun t k => ?_) ?_
  · show Steps p.tables e below (T46.setTop (mkF m 129 #[.val (.long p1), .second, .val (.int p2), .unset, .unset, .unset, .unset, .unset, .unset, .unset, .unset, .unset] [(.ref ad8)])) _
    refine XS.astoreN X46.here hx rfl (hb hby at_129) rfl rfl (l' := #[.val (.long p1), .second, .val (.int p2), .val (.ref ad8), .unset, .unset, .unset, .unset, .unset, .unset, .unset, .unset]) rfl ?_
    show Steps p.tables e below (T46.setTop (mkF m 130 #[.val (.long p1), .second, .val (.int p2), .val (.ref ad8), .unset, .unset, .unset, .unset, .unset, .unset, .unset, .unset] [])) _
    refine XS.iloadN X46.here hx rfl (hb hby at_130) rfl ?_
    show Steps p.tables e below (T46.setTop (mkF m 131 #[.val (.long p1), .second, .val (.int p2), .val (.ref ad8), .unset, .unset, .unset, .unset, .unset, .unset, .unset, .unset] [(.int p2)])) _
    refine XT.iconstV X46.here hx rfl (1 : Int32) (hb hby at_131) rfl ?_
    show Steps p.tables e below (T46.setTop (mkF m 132 #[.val (.long p1), .second, .val (.int p2), .val (.ref ad8), .unset, .unset, .unset, .unset, .unset, .unset, .unset, .unset] [(.int (1 : Int32)), (.int p2)])) _
    refine XS.iand X46.here hx rfl (hb hby at_132) rfl ?_
    show Steps p.tables e below (T46.setTop (mkF m 133 #[.val (.long p1), .second, .val (.int p2), .val (.ref ad8), .unset, .unset, .unset, .unset, .unset, .unset, .unset, .unset] [(.int (p2 &&& (1 : Int32)))])) _
    exact k
  by_cases c133_48 : (p2 &&& (1 : Int32)) = (0 : Int32)
  · refine OwnWp.step (U' := T46.setTop (mkF m 181 #[.val (.long p1), .second, .val (.int p2), .val (.ref ad8), .unset, .unset, .unset, .unset, .unset, .unset, .unset, .unset] [])) (fun t k => ?_) ?_
    · show Steps p.tables e below (T46.setTop (mkF m 133 #[.val (.long p1), .second, .val (.int p2), .val (.ref ad8), .unset, .unset, .unset, .unset, .unset, .unset, .unset, .unset] [(.int (p2 &&& (1 : Int32)))])) _
      refine XS.ifYes X46.here hx rfl (pc0 := 133) (pc' := 181) rfl (hb hby at_133) rfl (XT.i0_eq_t c133_48) (by decide) (by decide) ?_
      exact k
    obtain ⟨w1, qw1⟩ : ∃ z : Int64, z = (p1 >>> (((XT.ushr p2 (1 : Int32)) &&& (63 : Int32)).toInt64 &&& 63)) := ⟨_, rfl⟩
    refine OwnWp.step (U' := T46.setTop (mkF m 191 #[.val (.long p1), .second, .val (.int p2), .val (.ref ad8), .val (.long w1), .second, .unset, .unset, .unset, .unset, .unset, .unset] [])) (fun t k => ?_) ?_
    · show Steps p.tables e below (T46.setTop (mkF m 181 #[.val (.long p1), .second, .val (.int p2), .val (.ref ad8), .unset, .unset, .unset, .unset, .unset, .unset, .unset, .unset] [])) _
      refine XT.lloadN X46.here hx rfl (hb hby at_181) rfl ?_
      show Steps p.tables e below (T46.setTop (mkF m 182 #[.val (.long p1), .second, .val (.int p2), .val (.ref ad8), .unset, .unset, .unset, .unset, .unset, .unset, .unset, .unset] [(.long p1)])) _
      refine XS.iloadN X46.here hx rfl (hb hby at_182) rfl ?_
      show Steps p.tables e below (T46.setTop (mkF m 183 #[.val (.long p1), .second, .val (.int p2), .val (.ref ad8), .unset, .unset, .unset, .unset, .unset, .unset, .unset, .unset] [(.int p2), (.long p1)])) _
      refine XT.iconstV X46.here hx rfl (1 : Int32) (hb hby at_183) rfl ?_
      show Steps p.tables e below (T46.setTop (mkF m 184 #[.val (.long p1), .second, .val (.int p2), .val (.ref ad8), .unset, .unset, .unset, .unset, .unset, .unset, .unset, .unset] [(.int (1 : Int32)), (.int p2), (.long p1)])) _
      refine XT.iushr X46.here hx rfl (hb hby at_184) rfl ?_
      show Steps p.tables e below (T46.setTop (mkF m 185 #[.val (.long p1), .second, .val (.int p2), .val (.ref ad8), .unset, .unset, .unset, .unset, .unset, .unset, .unset, .unset] [(.int (XT.ushr p2 (1 : Int32))), (.long p1)])) _
      refine XT.bipushV X46.here hx rfl (63 : Int32) (hb hby at_185) rfl ?_
      show Steps p.tables e below (T46.setTop (mkF m 187 #[.val (.long p1), .second, .val (.int p2), .val (.ref ad8), .unset, .unset, .unset, .unset, .unset, .unset, .unset, .unset] [(.int (63 : Int32)), (.int (XT.ushr p2 (1 : Int32))), (.long p1)])) _
      refine XS.iand X46.here hx rfl (hb hby at_187) rfl ?_
      show Steps p.tables e below (T46.setTop (mkF m 188 #[.val (.long p1), .second, .val (.int p2), .val (.ref ad8), .unset, .unset, .unset, .unset, .unset, .unset, .unset, .unset] [(.int ((XT.ushr p2 (1 : Int32)) &&& (63 : Int32))), (.long p1)])) _
      refine XT.lshr X46.here hx rfl (hb hby at_188) rfl ?_
      show Steps p.tables e below (T46.setTop (mkF m 189 #[.val (.long p1), .second, .val (.int p2), .val (.ref ad8), .unset, .unset, .unset, .unset, .unset, .unset, .unset, .unset] [(.long (p1 >>> (((XT.ushr p2 (1 : Int32)) &&& (63 : Int32)).toInt64 &&& 63)))])) _
      refine XT.lstore X46.here hx rfl (hb hby at_189) rfl (l' := #[.val (.long p1), .second, .val (.int p2), .val (.ref ad8), .val (.long (p1 >>> (((XT.ushr p2 (1 : Int32)) &&& (63 : Int32)).toInt64 &&& 63))), .second, .unset, .unset, .unset, .unset, .unset, .unset]) rfl ?_
      show Steps p.tables e below (T46.setTop (mkF m 191 #[.val (.long p1), .second, .val (.int p2), .val (.ref ad8), .val (.long (p1 >>> (((XT.ushr p2 (1 : Int32)) &&& (63 : Int32)).toInt64 &&& 63))), .second, .unset, .unset, .unset, .unset, .unset, .unset] [])) _
      rw [qw1] at k
      exact k
    obtain ⟨x0, qx0⟩ : ∃ z : Int64, z = w1 := ⟨_, rfl⟩
    rw [← qx0]
    show OwnWp p e below s _ _ _ (T46.setTop (mkF m 191 #[.val (.long p1), .second, .val (.int p2), .val (.ref ad8), .val (.long x0), .second, .unset, .unset, .unset, .unset, .unset, .unset] []))
    refine OwnWp.step (U' := T46.setTop (mkF m 193 #[.val (.long p1), .second, .val (.int p2), .val (.ref ad8), .val (.long x0), .second, .unset, .unset, .unset, .unset, .unset, .unset] [(.long x0)])) (fun t k => ?_) ?_
    · show Steps p.tables e below (T46.setTop (mkF m 191 #[.val (.long p1), .second, .val (.int p2), .val (.ref ad8), .val (.long x0), .second, .unset, .unset, .unset, .unset, .unset, .unset] [])) _
      refine XT.lload X46.here hx rfl (hb hby at_191) rfl ?_
      show Steps p.tables e below (T46.setTop (mkF m 193 #[.val (.long p1), .second, .val (.int p2), .val (.ref ad8), .val (.long x0), .second, .unset, .unset, .unset, .unset, .unset, .unset] [(.long x0)])) _
      exact k
    obtain ⟨_, _, ⟨T49, L49, k49, n49⟩, -, X49, ⟨Lc49, hQ49, l49, y49, z49⟩, st49⟩ := Jvm.LawKit.callS X46 hx (y := (⟨"com/example/utu/utu/base/WholeNumbers", "length", "(J)I"⟩ : MethodName)) hown (mvT hZ (hw _ (List.mem_of_getElem? (i := 19) rfl))) (mvT hZ (hw _ (List.mem_of_getElem? (i := 20) rfl))) (mvT hZ (hw _ (List.mem_of_getElem? (i := 21) rfl))) (mvT hZ (hw _ (List.mem_of_getElem? (i := 22) rfl))) (by decide) (backOf (W := 0) (rm1 l Z a0 hw [] x0 h46 n0 Z46) hZ (hw _ (List.mem_of_getElem? (i := 22) rfl)) (hw _ (List.mem_of_getElem? (i := 21) rfl)) (by decide) (by decide)) (g := (mkF m 193 #[.val (.long p1), .second, .val (.int p2), .val (.ref ad8), .val (.long x0), .second, .unset, .unset, .unset, .unset, .unset, .unset] [(.long x0)])) rfl (by rw [hml]; rfl) (argsL := [(.long x0)]) (rest := []) (lenOf pd_1 rfl) rfl (by show 2 * 0 + _ ≤ _; exact Nat.le_of_eq rfl) (hb hby at_193) (fun _ _ => ⟨rfl, e46, (by dsimp only [Pt.cells]; decide), (by dsimp only [Pt.slots]; decide)⟩)
    dsimp only [Pt.U, Pt.locs, Pt.cells, Pt.slots] at X49 l49 y49 z49 st49 hQ49
    subst l49 y49 z49
    obtain ⟨d49, rfl, Nc49, hp49, hd49⟩ := hQ49
    have N49 := Fr.app N46 Nc49
    refine OwnWp.step st49 ?_
    have eh49 : T49.heap = h46 := hp49
    show OwnWp p e below s _ _ _ (T49.setTop (mkF m 196 #[.val (.long p1), .second, .val (.int p2), .val (.ref ad8), .val (.long x0), .second, .unset, .unset, .unset, .unset, .unset, .unset] [(.int (if x0 < (0 : Int64) then d49 + (1 : Int32) else d49))]))
    obtain ⟨dd, qdd⟩ : ∃ z : Int32, z = d49 := ⟨_, rfl⟩
    rw [← qdd] at hd49 ⊢
    have hd := hd49
    show OwnWp p e below s _ _ _ (T49.setTop (mkF m 196 #[.val (.long p1), .second, .val (.int p2), .val (.ref ad8), .val (.long x0), .second, .unset, .unset, .unset, .unset, .unset, .unset] [(.int (if x0 < (0 : Int64) then dd + (1 : Int32) else dd))]))
    obtain ⟨w101, qw101⟩ : ∃ z : Int32, z = (if x0 < (0 : Int64) then dd + (1 : Int32) else dd) := ⟨_, rfl⟩
    refine OwnWp.step (U' := T49.setTop (mkF m 198 #[.val (.long p1), .second, .val (.int p2), .val (.ref ad8), .val (.long x0), .second, .val (.int w101), .unset, .unset, .unset, .unset, .unset] [])) (fun t k => ?_) ?_
    · show Steps p.tables e below (T49.setTop (mkF m 196 #[.val (.long p1), .second, .val (.int p2), .val (.ref ad8), .val (.long x0), .second, .unset, .unset, .unset, .unset, .unset, .unset] [(.int (if x0 < (0 : Int64) then dd + (1 : Int32) else dd))])) _
      refine XS.istore X49.here hx rfl (hb hby at_196) rfl (l' := #[.val (.long p1), .second, .val (.int p2), .val (.ref ad8), .val (.long x0), .second, .val (.int (if x0 < (0 : Int64) then dd + (1 : Int32) else dd)), .unset, .unset, .unset, .unset, .unset]) rfl ?_
      show Steps p.tables e below (T49.setTop (mkF m 198 #[.val (.long p1), .second, .val (.int p2), .val (.ref ad8), .val (.long x0), .second, .val (.int (if x0 < (0 : Int64) then dd + (1 : Int32) else dd)), .unset, .unset, .unset, .unset, .unset] [])) _
      rw [qw101] at k
      exact k
    refine OwnWp.step (U' := T49.setTop (mkF m 202 #[.val (.long p1), .second, .val (.int p2), .val (.ref ad8), .val (.long x0), .second, .val (.int w101), .unset, .unset, .unset, .unset, .unset] [(.int (XT.cmpL x0 (0 : Int64)))])) (fun t k => ?_) ?_
    · show Steps p.tables e below (T49.setTop (mkF m 198 #[.val (.long p1), .second, .val (.int p2), .val (.ref ad8), .val (.long x0), .second, .val (.int w101), .unset, .unset, .unset, .unset, .unset] [])) _
      refine XT.lload X49.here hx rfl (hb hby at_198) rfl ?_
      show Steps p.tables e below (T49.setTop (mkF m 200 #[.val (.long p1), .second, .val (.int p2), .val (.ref ad8), .val (.long x0), .second, .val (.int w101), .unset, .unset, .unset, .unset, .unset] [(.long x0)])) _
      refine XT.lconstV X49.here hx rfl (0 : Int64) (hb hby at_200) rfl ?_
      show Steps p.tables e below (T49.setTop (mkF m 201 #[.val (.long p1), .second, .val (.int p2), .val (.ref ad8), .val (.long x0), .second, .val (.int w101), .unset, .unset, .unset, .unset, .unset] [(.long (0 : Int64)), (.long x0)])) _
      refine XT.lcmp X49.here hx rfl (hb hby at_201) rfl ?_
      show Steps p.tables e below (T49.setTop (mkF m 202 #[.val (.long p1), .second, .val (.int p2), .val (.ref ad8), .val (.long x0), .second, .val (.int w101), .unset, .unset, .unset, .unset, .unset] [(.int (XT.cmpL x0 (0 : Int64)))])) _
      exact k
    obtain ⟨w102, qw102⟩ : ∃ z : Int64, z = (if x0 < (0 : Int64) then x0 else (-x0)) := ⟨_, rfl⟩
    refine OwnWp.step (U' := T49.setTop (mkF m 213 #[.val (.long p1), .second, .val (.int p2), .val (.ref ad8), .val (.long x0), .second, .val (.int w101), .unset, .unset, .unset, .unset, .unset] [(.long w102)])) (fun t k => ?_) ?_
    · show Steps p.tables e below (T49.setTop (mkF m 202 #[.val (.long p1), .second, .val (.int p2), .val (.ref ad8), .val (.long x0), .second, .val (.int w101), .unset, .unset, .unset, .unset, .unset] [(.int (XT.cmpL x0 (0 : Int64)))])) _
      by_cases c202_50 : x0 < (0 : Int64)
      · refine XS.ifNo X49.here hx rfl (hb hby at_202) rfl (XT.ll_ge_f c202_50) ?_
        show Steps p.tables e below (T49.setTop (mkF m 205 #[.val (.long p1), .second, .val (.int p2), .val (.ref ad8), .val (.long x0), .second, .val (.int w101), .unset, .unset, .unset, .unset, .unset] [])) _
        refine XT.lload X49.here hx rfl (hb hby at_205) rfl ?_
        show Steps p.tables e below (T49.setTop (mkF m 207 #[.val (.long p1), .second, .val (.int p2), .val (.ref ad8), .val (.long x0), .second, .val (.int w101), .unset, .unset, .unset, .unset, .unset] [(.long x0)])) _
        refine XS.goto X49.here hx rfl (pc0 := 207) (pc' := 213) rfl (hb hby at_207) (by decide) (by decide) ?_
        show Steps p.tables e below (T49.setTop (mkF m 213 #[.val (.long p1), .second, .val (.int p2), .val (.ref ad8), .val (.long x0), .second, .val (.int w101), .unset, .unset, .unset, .unset, .unset] [(.long x0)])) _
        rw [show w102 = x0 from by rw [qw102, if_pos c202_50]] at k
        exact k
      · refine XS.ifYes X49.here hx rfl (pc0 := 202) (pc' := 210) rfl (hb hby at_202) rfl (XT.ll_ge_t c202_50) (by decide) (by decide) ?_
        show Steps p.tables e below (T49.setTop (mkF m 210 #[.val (.long p1), .second, .val (.int p2), .val (.ref ad8), .val (.long x0), .second, .val (.int w101), .unset, .unset, .unset, .unset, .unset] [])) _
        refine XT.lload X49.here hx rfl (hb hby at_210) rfl ?_
        show Steps p.tables e below (T49.setTop (mkF m 212 #[.val (.long p1), .second, .val (.int p2), .val (.ref ad8), .val (.long x0), .second, .val (.int w101), .unset, .unset, .unset, .unset, .unset] [(.long x0)])) _
        refine XT.lneg X49.here hx rfl (hb hby at_212) rfl ?_
        show Steps p.tables e below (T49.setTop (mkF m 213 #[.val (.long p1), .second, .val (.int p2), .val (.ref ad8), .val (.long x0), .second, .val (.int w101), .unset, .unset, .unset, .unset, .unset] [(.long (-x0))])) _
        rw [show w102 = (-x0) from by rw [qw102, if_neg c202_50]] at k
        exact k
    refine OwnWp.step (U' := T49.setTop (mkF m 219 #[.val (.long p1), .second, .val (.int p2), .val (.ref ad8), .val (.long x0), .second, .val (.int w101), .val (.long w102), .second, .unset, .unset, .unset] [(.int (XT.cmpL x0 (0 : Int64)))])) (fun t k => ?_) ?_
    · show Steps p.tables e below (T49.setTop (mkF m 213 #[.val (.long p1), .second, .val (.int p2), .val (.ref ad8), .val (.long x0), .second, .val (.int w101), .unset, .unset, .unset, .unset, .unset] [(.long w102)])) _
      refine XT.lstore X49.here hx rfl (hb hby at_213) rfl (l' := #[.val (.long p1), .second, .val (.int p2), .val (.ref ad8), .val (.long x0), .second, .val (.int w101), .val (.long w102), .second, .unset, .unset, .unset]) rfl ?_
      show Steps p.tables e below (T49.setTop (mkF m 215 #[.val (.long p1), .second, .val (.int p2), .val (.ref ad8), .val (.long x0), .second, .val (.int w101), .val (.long w102), .second, .unset, .unset, .unset] [])) _
      refine XT.lload X49.here hx rfl (hb hby at_215) rfl ?_
      show Steps p.tables e below (T49.setTop (mkF m 217 #[.val (.long p1), .second, .val (.int p2), .val (.ref ad8), .val (.long x0), .second, .val (.int w101), .val (.long w102), .second, .unset, .unset, .unset] [(.long x0)])) _
      refine XT.lconstV X49.here hx rfl (0 : Int64) (hb hby at_217) rfl ?_
      show Steps p.tables e below (T49.setTop (mkF m 218 #[.val (.long p1), .second, .val (.int p2), .val (.ref ad8), .val (.long x0), .second, .val (.int w101), .val (.long w102), .second, .unset, .unset, .unset] [(.long (0 : Int64)), (.long x0)])) _
      refine XT.lcmp X49.here hx rfl (hb hby at_218) rfl ?_
      show Steps p.tables e below (T49.setTop (mkF m 219 #[.val (.long p1), .second, .val (.int p2), .val (.ref ad8), .val (.long x0), .second, .val (.int w101), .val (.long w102), .second, .unset, .unset, .unset] [(.int (XT.cmpL x0 (0 : Int64)))])) _
      exact k
    obtain ⟨w103, qw103⟩ : ∃ z : Int32, z = (if x0 < (0 : Int64) then (w101 - (1 : Int32)) else w101) := ⟨_, rfl⟩
    refine OwnWp.step (U' := T49.setTop (mkF m 231 #[.val (.long p1), .second, .val (.int p2), .val (.ref ad8), .val (.long x0), .second, .val (.int w101), .val (.long w102), .second, .unset, .unset, .unset] [(.int w103)])) (fun t k => ?_) ?_
    · show Steps p.tables e below (T49.setTop (mkF m 219 #[.val (.long p1), .second, .val (.int p2), .val (.ref ad8), .val (.long x0), .second, .val (.int w101), .val (.long w102), .second, .unset, .unset, .unset] [(.int (XT.cmpL x0 (0 : Int64)))])) _
      by_cases c219_51 : x0 < (0 : Int64)
      · refine XS.ifNo X49.here hx rfl (hb hby at_219) rfl (XT.ll_ge_f c219_51) ?_
        show Steps p.tables e below (T49.setTop (mkF m 222 #[.val (.long p1), .second, .val (.int p2), .val (.ref ad8), .val (.long x0), .second, .val (.int w101), .val (.long w102), .second, .unset, .unset, .unset] [])) _
        refine XS.iload X49.here hx rfl (hb hby at_222) rfl ?_
        show Steps p.tables e below (T49.setTop (mkF m 224 #[.val (.long p1), .second, .val (.int p2), .val (.ref ad8), .val (.long x0), .second, .val (.int w101), .val (.long w102), .second, .unset, .unset, .unset] [(.int w101)])) _
        refine XT.iconstV X49.here hx rfl (1 : Int32) (hb hby at_224) rfl ?_
        show Steps p.tables e below (T49.setTop (mkF m 225 #[.val (.long p1), .second, .val (.int p2), .val (.ref ad8), .val (.long x0), .second, .val (.int w101), .val (.long w102), .second, .unset, .unset, .unset] [(.int (1 : Int32)), (.int w101)])) _
        refine XS.isub X49.here hx rfl (hb hby at_225) rfl ?_
        show Steps p.tables e below (T49.setTop (mkF m 226 #[.val (.long p1), .second, .val (.int p2), .val (.ref ad8), .val (.long x0), .second, .val (.int w101), .val (.long w102), .second, .unset, .unset, .unset] [(.int (w101 - (1 : Int32)))])) _
        refine XS.goto X49.here hx rfl (pc0 := 226) (pc' := 231) rfl (hb hby at_226) (by decide) (by decide) ?_
        show Steps p.tables e below (T49.setTop (mkF m 231 #[.val (.long p1), .second, .val (.int p2), .val (.ref ad8), .val (.long x0), .second, .val (.int w101), .val (.long w102), .second, .unset, .unset, .unset] [(.int (w101 - (1 : Int32)))])) _
        rw [show w103 = (w101 - (1 : Int32)) from by rw [qw103, if_pos c219_51]] at k
        exact k
      · refine XS.ifYes X49.here hx rfl (pc0 := 219) (pc' := 229) rfl (hb hby at_219) rfl (XT.ll_ge_t c219_51) (by decide) (by decide) ?_
        show Steps p.tables e below (T49.setTop (mkF m 229 #[.val (.long p1), .second, .val (.int p2), .val (.ref ad8), .val (.long x0), .second, .val (.int w101), .val (.long w102), .second, .unset, .unset, .unset] [])) _
        refine XS.iload X49.here hx rfl (hb hby at_229) rfl ?_
        show Steps p.tables e below (T49.setTop (mkF m 231 #[.val (.long p1), .second, .val (.int p2), .val (.ref ad8), .val (.long x0), .second, .val (.int w101), .val (.long w102), .second, .unset, .unset, .unset] [(.int w101)])) _
        rw [show w103 = w101 from by rw [qw103, if_neg c219_51]] at k
        exact k
    refine OwnWp.step (U' := T49.setTop (mkF m 236 #[.val (.long p1), .second, .val (.int p2), .val (.ref ad8), .val (.long x0), .second, .val (.int w101), .val (.long w102), .second, .val (.int w103), .unset, .unset] [(.int (1 : Int32)), (.int w103)])) (fun t k => ?_) ?_
    · show Steps p.tables e below (T49.setTop (mkF m 231 #[.val (.long p1), .second, .val (.int p2), .val (.ref ad8), .val (.long x0), .second, .val (.int w101), .val (.long w102), .second, .unset, .unset, .unset] [(.int w103)])) _
      refine XS.istore X49.here hx rfl (hb hby at_231) rfl (l' := #[.val (.long p1), .second, .val (.int p2), .val (.ref ad8), .val (.long x0), .second, .val (.int w101), .val (.long w102), .second, .val (.int w103), .unset, .unset]) rfl ?_
      show Steps p.tables e below (T49.setTop (mkF m 233 #[.val (.long p1), .second, .val (.int p2), .val (.ref ad8), .val (.long x0), .second, .val (.int w101), .val (.long w102), .second, .val (.int w103), .unset, .unset] [])) _
      refine XS.iload X49.here hx rfl (hb hby at_233) rfl ?_
      show Steps p.tables e below (T49.setTop (mkF m 235 #[.val (.long p1), .second, .val (.int p2), .val (.ref ad8), .val (.long x0), .second, .val (.int w101), .val (.long w102), .second, .val (.int w103), .unset, .unset] [(.int w103)])) _
      refine XT.iconstV X49.here hx rfl (1 : Int32) (hb hby at_235) rfl ?_
      show Steps p.tables e below (T49.setTop (mkF m 236 #[.val (.long p1), .second, .val (.int p2), .val (.ref ad8), .val (.long x0), .second, .val (.int w101), .val (.long w102), .second, .val (.int w103), .unset, .unset] [(.int (1 : Int32)), (.int w103)])) _
      exact k
    obtain ⟨hv, hlo, hhi⟩ := own_dd x0 dd hd w101 qw101 w103 qw103
    refine OwnWp.step (U' := T49.setTop (mkF m 251 #[.val (.long p1), .second, .val (.int p2), .val (.ref ad8), .val (.long x0), .second, .val (.int w101), .val (.long w102), .second, .val (.int w103), .unset, .unset] [(.int (1 : Int32)), (.int w103)])) (fun t k => ?_) ?_
    · show Steps p.tables e below (T49.setTop (mkF m 236 #[.val (.long p1), .second, .val (.int p2), .val (.ref ad8), .val (.long x0), .second, .val (.int w101), .val (.long w102), .second, .val (.int w103), .unset, .unset] [(.int (1 : Int32)), (.int w103)])) _
      refine XS.icmpNo X49.here hx rfl (hb hby at_236) rfl (XT.ii_lt_f hlo) ?_
      show Steps p.tables e below (T49.setTop (mkF m 239 #[.val (.long p1), .second, .val (.int p2), .val (.ref ad8), .val (.long x0), .second, .val (.int w101), .val (.long w102), .second, .val (.int w103), .unset, .unset] [])) _
      refine XS.iload X49.here hx rfl (hb hby at_239) rfl ?_
      show Steps p.tables e below (T49.setTop (mkF m 241 #[.val (.long p1), .second, .val (.int p2), .val (.ref ad8), .val (.long x0), .second, .val (.int w101), .val (.long w102), .second, .val (.int w103), .unset, .unset] [(.int w103)])) _
      refine XT.bipushV X49.here hx rfl (19 : Int32) (hb hby at_241) rfl ?_
      show Steps p.tables e below (T49.setTop (mkF m 243 #[.val (.long p1), .second, .val (.int p2), .val (.ref ad8), .val (.long x0), .second, .val (.int w101), .val (.long w102), .second, .val (.int w103), .unset, .unset] [(.int (19 : Int32)), (.int w103)])) _
      refine XS.icmpYes X49.here hx rfl (pc0 := 243) (pc' := 248) rfl (hb hby at_243) rfl (XT.ii_le_t hhi) (by decide) (by decide) ?_
      show Steps p.tables e below (T49.setTop (mkF m 248 #[.val (.long p1), .second, .val (.int p2), .val (.ref ad8), .val (.long x0), .second, .val (.int w101), .val (.long w102), .second, .val (.int w103), .unset, .unset] [])) _
      refine XS.iload X49.here hx rfl (hb hby at_248) rfl ?_
      show Steps p.tables e below (T49.setTop (mkF m 250 #[.val (.long p1), .second, .val (.int p2), .val (.ref ad8), .val (.long x0), .second, .val (.int w101), .val (.long w102), .second, .val (.int w103), .unset, .unset] [(.int w103)])) _
      refine XT.iconstV X49.here hx rfl (1 : Int32) (hb hby at_250) rfl ?_
      show Steps p.tables e below (T49.setTop (mkF m 251 #[.val (.long p1), .second, .val (.int p2), .val (.ref ad8), .val (.long x0), .second, .val (.int w101), .val (.long w102), .second, .val (.int w103), .unset, .unset] [(.int (1 : Int32)), (.int w103)])) _
      exact k
    obtain ⟨w104, qw104⟩ : ∃ z : Int32, z = (if w103 = (1 : Int32) then (1 : Int32) else (if (-(own_p (w103 - (1 : Int32)).toInt)) < w102 then (0 : Int32) else (1 : Int32))) := ⟨_, rfl⟩
    refine OwnWp.step (U' := T49.setTop (mkF m 272 #[.val (.long p1), .second, .val (.int p2), .val (.ref ad8), .val (.long x0), .second, .val (.int w101), .val (.long w102), .second, .val (.int w103), .unset, .unset] [(.int w104)])) (fun t k => ?_) ?_
    · show Steps p.tables e below (T49.setTop (mkF m 251 #[.val (.long p1), .second, .val (.int p2), .val (.ref ad8), .val (.long x0), .second, .val (.int w101), .val (.long w102), .second, .val (.int w103), .unset, .unset] [(.int (1 : Int32)), (.int w103)])) _
      by_cases c251_52 : w103 = (1 : Int32)
      · refine XS.icmpYes X49.here hx rfl (pc0 := 251) (pc' := 267) rfl (hb hby at_251) rfl (XT.ii_eq_t c251_52) (by decide) (by decide) ?_
        show Steps p.tables e below (T49.setTop (mkF m 267 #[.val (.long p1), .second, .val (.int p2), .val (.ref ad8), .val (.long x0), .second, .val (.int w101), .val (.long w102), .second, .val (.int w103), .unset, .unset] [])) _
        refine XT.iconstV X49.here hx rfl (1 : Int32) (hb hby at_267) rfl ?_
        show Steps p.tables e below (T49.setTop (mkF m 268 #[.val (.long p1), .second, .val (.int p2), .val (.ref ad8), .val (.long x0), .second, .val (.int w101), .val (.long w102), .second, .val (.int w103), .unset, .unset] [(.int (1 : Int32))])) _
        refine XS.goto X49.here hx rfl (pc0 := 268) (pc' := 272) rfl (hb hby at_268) (by decide) (by decide) ?_
        show Steps p.tables e below (T49.setTop (mkF m 272 #[.val (.long p1), .second, .val (.int p2), .val (.ref ad8), .val (.long x0), .second, .val (.int w101), .val (.long w102), .second, .val (.int w103), .unset, .unset] [(.int (1 : Int32))])) _
        rw [show w104 = (1 : Int32) from by rw [qw104, if_pos c251_52]] at k
        exact k
      · refine XS.icmpNo X49.here hx rfl (hb hby at_251) rfl (XT.ii_eq_f c251_52) ?_
        show Steps p.tables e below (T49.setTop (mkF m 254 #[.val (.long p1), .second, .val (.int p2), .val (.ref ad8), .val (.long x0), .second, .val (.int w101), .val (.long w102), .second, .val (.int w103), .unset, .unset] [])) _
        refine XT.lload X49.here hx rfl (hb hby at_254) rfl ?_
        show Steps p.tables e below (T49.setTop (mkF m 256 #[.val (.long p1), .second, .val (.int p2), .val (.ref ad8), .val (.long x0), .second, .val (.int w101), .val (.long w102), .second, .val (.int w103), .unset, .unset] [(.long w102)])) _
        refine XS.aloadN X49.here hx rfl (hb hby at_256) rfl rfl ?_
        show Steps p.tables e below (T49.setTop (mkF m 257 #[.val (.long p1), .second, .val (.int p2), .val (.ref ad8), .val (.long x0), .second, .val (.int w101), .val (.long w102), .second, .val (.int w103), .unset, .unset] [(.ref ad8), (.long w102)])) _
        refine XS.iload X49.here hx rfl (hb hby at_257) rfl ?_
        show Steps p.tables e below (T49.setTop (mkF m 259 #[.val (.long p1), .second, .val (.int p2), .val (.ref ad8), .val (.long x0), .second, .val (.int w101), .val (.long w102), .second, .val (.int w103), .unset, .unset] [(.int w103), (.ref ad8), (.long w102)])) _
        refine XT.iconstV X49.here hx rfl (1 : Int32) (hb hby at_259) rfl ?_
        show Steps p.tables e below (T49.setTop (mkF m 260 #[.val (.long p1), .second, .val (.int p2), .val (.ref ad8), .val (.long x0), .second, .val (.int w101), .val (.long w102), .second, .val (.int w103), .unset, .unset] [(.int (1 : Int32)), (.int w103), (.ref ad8), (.long w102)])) _
        refine XS.isub X49.here hx rfl (hb hby at_260) rfl ?_
        show Steps p.tables e below (T49.setTop (mkF m 261 #[.val (.long p1), .second, .val (.int p2), .val (.ref ad8), .val (.long x0), .second, .val (.int w101), .val (.long w102), .second, .val (.int w103), .unset, .unset] [(.int (w103 - (1 : Int32))), (.ref ad8), (.long w102)])) _
        refine OwnA.ldJ X49 hx hZ eh49 Fp (own_ix1 w103 dd hv hd).1 (own_ix1 w103 dd hv hd).2 rfl rfl (hb hby at_261) ?_
        show Steps p.tables e below (T49.setTop (mkF m 262 #[.val (.long p1), .second, .val (.int p2), .val (.ref ad8), .val (.long x0), .second, .val (.int w101), .val (.long w102), .second, .val (.int w103), .unset, .unset] [(.long (own_p (w103 - (1 : Int32)).toInt)), (.long w102)])) _
        refine XT.lneg X49.here hx rfl (hb hby at_262) rfl ?_
        show Steps p.tables e below (T49.setTop (mkF m 263 #[.val (.long p1), .second, .val (.int p2), .val (.ref ad8), .val (.long x0), .second, .val (.int w101), .val (.long w102), .second, .val (.int w103), .unset, .unset] [(.long (-(own_p (w103 - (1 : Int32)).toInt))), (.long w102)])) _
        refine XT.lcmp X49.here hx rfl (hb hby at_263) rfl ?_
        show Steps p.tables e below (T49.setTop (mkF m 264 #[.val (.long p1), .second, .val (.int p2), .val (.ref ad8), .val (.long x0), .second, .val (.int w101), .val (.long w102), .second, .val (.int w103), .unset, .unset] [(.int (XT.cmpL w102 (-(own_p (w103 - (1 : Int32)).toInt))))])) _
        by_cases c264_53 : (-(own_p (w103 - (1 : Int32)).toInt)) < w102
        · refine XS.ifYes X49.here hx rfl (pc0 := 264) (pc' := 271) rfl (hb hby at_264) rfl (XT.ll_gt_t c264_53) (by decide) (by decide) ?_
          show Steps p.tables e below (T49.setTop (mkF m 271 #[.val (.long p1), .second, .val (.int p2), .val (.ref ad8), .val (.long x0), .second, .val (.int w101), .val (.long w102), .second, .val (.int w103), .unset, .unset] [])) _
          refine XT.iconstV X49.here hx rfl (0 : Int32) (hb hby at_271) rfl ?_
          show Steps p.tables e below (T49.setTop (mkF m 272 #[.val (.long p1), .second, .val (.int p2), .val (.ref ad8), .val (.long x0), .second, .val (.int w101), .val (.long w102), .second, .val (.int w103), .unset, .unset] [(.int (0 : Int32))])) _
          rw [show w104 = (0 : Int32) from by rw [qw104, if_neg c251_52, if_pos c264_53]] at k
          exact k
        · refine XS.ifNo X49.here hx rfl (hb hby at_264) rfl (XT.ll_gt_f c264_53) ?_
          show Steps p.tables e below (T49.setTop (mkF m 267 #[.val (.long p1), .second, .val (.int p2), .val (.ref ad8), .val (.long x0), .second, .val (.int w101), .val (.long w102), .second, .val (.int w103), .unset, .unset] [])) _
          refine XT.iconstV X49.here hx rfl (1 : Int32) (hb hby at_267) rfl ?_
          show Steps p.tables e below (T49.setTop (mkF m 268 #[.val (.long p1), .second, .val (.int p2), .val (.ref ad8), .val (.long x0), .second, .val (.int w101), .val (.long w102), .second, .val (.int w103), .unset, .unset] [(.int (1 : Int32))])) _
          refine XS.goto X49.here hx rfl (pc0 := 268) (pc' := 272) rfl (hb hby at_268) (by decide) (by decide) ?_
          show Steps p.tables e below (T49.setTop (mkF m 272 #[.val (.long p1), .second, .val (.int p2), .val (.ref ad8), .val (.long x0), .second, .val (.int w101), .val (.long w102), .second, .val (.int w103), .unset, .unset] [(.int (1 : Int32))])) _
          rw [show w104 = (1 : Int32) from by rw [qw104, if_neg c251_52, if_neg c264_53]] at k
          exact k
    refine OwnWp.step (U' := T49.setTop (mkF m 278 #[.val (.long p1), .second, .val (.int p2), .val (.ref ad8), .val (.long x0), .second, .val (.int w101), .val (.long w102), .second, .val (.int w103), .val (.int w104), .unset] [(.int (19 : Int32)), (.int w103)])) (fun t k => ?_) ?_
    · show Steps p.tables e below (T49.setTop (mkF m 272 #[.val (.long p1), .second, .val (.int p2), .val (.ref ad8), .val (.long x0), .second, .val (.int w101), .val (.long w102), .second, .val (.int w103), .unset, .unset] [(.int w104)])) _
      refine XS.istore X49.here hx rfl (hb hby at_272) rfl (l' := #[.val (.long p1), .second, .val (.int p2), .val (.ref ad8), .val (.long x0), .second, .val (.int w101), .val (.long w102), .second, .val (.int w103), .val (.int w104), .unset]) rfl ?_
      show Steps p.tables e below (T49.setTop (mkF m 274 #[.val (.long p1), .second, .val (.int p2), .val (.ref ad8), .val (.long x0), .second, .val (.int w101), .val (.long w102), .second, .val (.int w103), .val (.int w104), .unset] [])) _
      refine XS.iload X49.here hx rfl (hb hby at_274) rfl ?_
      show Steps p.tables e below (T49.setTop (mkF m 276 #[.val (.long p1), .second, .val (.int p2), .val (.ref ad8), .val (.long x0), .second, .val (.int w101), .val (.long w102), .second, .val (.int w103), .val (.int w104), .unset] [(.int w103)])) _
      refine XT.bipushV X49.here hx rfl (19 : Int32) (hb hby at_276) rfl ?_
      show Steps p.tables e below (T49.setTop (mkF m 278 #[.val (.long p1), .second, .val (.int p2), .val (.ref ad8), .val (.long x0), .second, .val (.int w101), .val (.long w102), .second, .val (.int w103), .val (.int w104), .unset] [(.int (19 : Int32)), (.int w103)])) _
      exact k
    obtain ⟨w105, qw105⟩ : ∃ z : Int32, z = (if w103 = (19 : Int32) then (1 : Int32) else (if (-(own_p w103.toInt)) < w102 then (1 : Int32) else (0 : Int32))) := ⟨_, rfl⟩
    refine OwnWp.step (U' := T49.setTop (mkF m 297 #[.val (.long p1), .second, .val (.int p2), .val (.ref ad8), .val (.long x0), .second, .val (.int w101), .val (.long w102), .second, .val (.int w103), .val (.int w104), .unset] [(.int w105)])) (fun t k => ?_) ?_
    · show Steps p.tables e below (T49.setTop (mkF m 278 #[.val (.long p1), .second, .val (.int p2), .val (.ref ad8), .val (.long x0), .second, .val (.int w101), .val (.long w102), .second, .val (.int w103), .val (.int w104), .unset] [(.int (19 : Int32)), (.int w103)])) _
      by_cases c278_54 : w103 = (19 : Int32)
      · refine XS.icmpYes X49.here hx rfl (pc0 := 278) (pc' := 292) rfl (hb hby at_278) rfl (XT.ii_eq_t c278_54) (by decide) (by decide) ?_
        show Steps p.tables e below (T49.setTop (mkF m 292 #[.val (.long p1), .second, .val (.int p2), .val (.ref ad8), .val (.long x0), .second, .val (.int w101), .val (.long w102), .second, .val (.int w103), .val (.int w104), .unset] [])) _
        refine XT.iconstV X49.here hx rfl (1 : Int32) (hb hby at_292) rfl ?_
        show Steps p.tables e below (T49.setTop (mkF m 293 #[.val (.long p1), .second, .val (.int p2), .val (.ref ad8), .val (.long x0), .second, .val (.int w101), .val (.long w102), .second, .val (.int w103), .val (.int w104), .unset] [(.int (1 : Int32))])) _
        refine XS.goto X49.here hx rfl (pc0 := 293) (pc' := 297) rfl (hb hby at_293) (by decide) (by decide) ?_
        show Steps p.tables e below (T49.setTop (mkF m 297 #[.val (.long p1), .second, .val (.int p2), .val (.ref ad8), .val (.long x0), .second, .val (.int w101), .val (.long w102), .second, .val (.int w103), .val (.int w104), .unset] [(.int (1 : Int32))])) _
        rw [show w105 = (1 : Int32) from by rw [qw105, if_pos c278_54]] at k
        exact k
      · refine XS.icmpNo X49.here hx rfl (hb hby at_278) rfl (XT.ii_eq_f c278_54) ?_
        show Steps p.tables e below (T49.setTop (mkF m 281 #[.val (.long p1), .second, .val (.int p2), .val (.ref ad8), .val (.long x0), .second, .val (.int w101), .val (.long w102), .second, .val (.int w103), .val (.int w104), .unset] [])) _
        refine XT.lload X49.here hx rfl (hb hby at_281) rfl ?_
        show Steps p.tables e below (T49.setTop (mkF m 283 #[.val (.long p1), .second, .val (.int p2), .val (.ref ad8), .val (.long x0), .second, .val (.int w101), .val (.long w102), .second, .val (.int w103), .val (.int w104), .unset] [(.long w102)])) _
        refine XS.aloadN X49.here hx rfl (hb hby at_283) rfl rfl ?_
        show Steps p.tables e below (T49.setTop (mkF m 284 #[.val (.long p1), .second, .val (.int p2), .val (.ref ad8), .val (.long x0), .second, .val (.int w101), .val (.long w102), .second, .val (.int w103), .val (.int w104), .unset] [(.ref ad8), (.long w102)])) _
        refine XS.iload X49.here hx rfl (hb hby at_284) rfl ?_
        show Steps p.tables e below (T49.setTop (mkF m 286 #[.val (.long p1), .second, .val (.int p2), .val (.ref ad8), .val (.long x0), .second, .val (.int w101), .val (.long w102), .second, .val (.int w103), .val (.int w104), .unset] [(.int w103), (.ref ad8), (.long w102)])) _
        refine OwnA.ldJ X49 hx hZ eh49 Fp (own_ix2 w103 dd hv hd (by assumption)).1 (own_ix2 w103 dd hv hd (by assumption)).2 rfl rfl (hb hby at_286) ?_
        show Steps p.tables e below (T49.setTop (mkF m 287 #[.val (.long p1), .second, .val (.int p2), .val (.ref ad8), .val (.long x0), .second, .val (.int w101), .val (.long w102), .second, .val (.int w103), .val (.int w104), .unset] [(.long (own_p w103.toInt)), (.long w102)])) _
        refine XT.lneg X49.here hx rfl (hb hby at_287) rfl ?_
        show Steps p.tables e below (T49.setTop (mkF m 288 #[.val (.long p1), .second, .val (.int p2), .val (.ref ad8), .val (.long x0), .second, .val (.int w101), .val (.long w102), .second, .val (.int w103), .val (.int w104), .unset] [(.long (-(own_p w103.toInt))), (.long w102)])) _
        refine XT.lcmp X49.here hx rfl (hb hby at_288) rfl ?_
        show Steps p.tables e below (T49.setTop (mkF m 289 #[.val (.long p1), .second, .val (.int p2), .val (.ref ad8), .val (.long x0), .second, .val (.int w101), .val (.long w102), .second, .val (.int w103), .val (.int w104), .unset] [(.int (XT.cmpL w102 (-(own_p w103.toInt))))])) _
        by_cases c289_55 : (-(own_p w103.toInt)) < w102
        · refine XS.ifNo X49.here hx rfl (hb hby at_289) rfl (XT.ll_le_f c289_55) ?_
          show Steps p.tables e below (T49.setTop (mkF m 292 #[.val (.long p1), .second, .val (.int p2), .val (.ref ad8), .val (.long x0), .second, .val (.int w101), .val (.long w102), .second, .val (.int w103), .val (.int w104), .unset] [])) _
          refine XT.iconstV X49.here hx rfl (1 : Int32) (hb hby at_292) rfl ?_
          show Steps p.tables e below (T49.setTop (mkF m 293 #[.val (.long p1), .second, .val (.int p2), .val (.ref ad8), .val (.long x0), .second, .val (.int w101), .val (.long w102), .second, .val (.int w103), .val (.int w104), .unset] [(.int (1 : Int32))])) _
          refine XS.goto X49.here hx rfl (pc0 := 293) (pc' := 297) rfl (hb hby at_293) (by decide) (by decide) ?_
          show Steps p.tables e below (T49.setTop (mkF m 297 #[.val (.long p1), .second, .val (.int p2), .val (.ref ad8), .val (.long x0), .second, .val (.int w101), .val (.long w102), .second, .val (.int w103), .val (.int w104), .unset] [(.int (1 : Int32))])) _
          rw [show w105 = (1 : Int32) from by rw [qw105, if_neg c278_54, if_pos c289_55]] at k
          exact k
        · refine XS.ifYes X49.here hx rfl (pc0 := 289) (pc' := 296) rfl (hb hby at_289) rfl (XT.ll_le_t c289_55) (by decide) (by decide) ?_
          show Steps p.tables e below (T49.setTop (mkF m 296 #[.val (.long p1), .second, .val (.int p2), .val (.ref ad8), .val (.long x0), .second, .val (.int w101), .val (.long w102), .second, .val (.int w103), .val (.int w104), .unset] [])) _
          refine XT.iconstV X49.here hx rfl (0 : Int32) (hb hby at_296) rfl ?_
          show Steps p.tables e below (T49.setTop (mkF m 297 #[.val (.long p1), .second, .val (.int p2), .val (.ref ad8), .val (.long x0), .second, .val (.int w101), .val (.long w102), .second, .val (.int w103), .val (.int w104), .unset] [(.int (0 : Int32))])) _
          rw [show w105 = (0 : Int32) from by rw [qw105, if_neg c278_54, if_neg c289_55]] at k
          exact k
    refine OwnWp.step (U' := T49.setTop (mkF m 301 #[.val (.long p1), .second, .val (.int p2), .val (.ref ad8), .val (.long x0), .second, .val (.int w101), .val (.long w102), .second, .val (.int w103), .val (.int w104), .val (.int w105)] [(.int w104)])) (fun t k => ?_) ?_
    · show Steps p.tables e below (T49.setTop (mkF m 297 #[.val (.long p1), .second, .val (.int p2), .val (.ref ad8), .val (.long x0), .second, .val (.int w101), .val (.long w102), .second, .val (.int w103), .val (.int w104), .unset] [(.int w105)])) _
      refine XS.istore X49.here hx rfl (hb hby at_297) rfl (l' := #[.val (.long p1), .second, .val (.int p2), .val (.ref ad8), .val (.long x0), .second, .val (.int w101), .val (.long w102), .second, .val (.int w103), .val (.int w104), .val (.int w105)]) rfl ?_
      show Steps p.tables e below (T49.setTop (mkF m 299 #[.val (.long p1), .second, .val (.int p2), .val (.ref ad8), .val (.long x0), .second, .val (.int w101), .val (.long w102), .second, .val (.int w103), .val (.int w104), .val (.int w105)] [])) _
      refine XS.iload X49.here hx rfl (hb hby at_299) rfl ?_
      show Steps p.tables e below (T49.setTop (mkF m 301 #[.val (.long p1), .second, .val (.int p2), .val (.ref ad8), .val (.long x0), .second, .val (.int w101), .val (.long w102), .second, .val (.int w103), .val (.int w104), .val (.int w105)] [(.int w104)])) _
      exact k
    obtain ⟨w106, qw106⟩ : ∃ z : Int32, z = (if w104 = (0 : Int32) then (0 : Int32) else (if w105 = (0 : Int32) then (0 : Int32) else (1 : Int32))) := ⟨_, rfl⟩
    refine OwnWp.step (U' := T49.setTop (mkF m 314 #[.val (.long p1), .second, .val (.int p2), .val (.ref ad8), .val (.long x0), .second, .val (.int w101), .val (.long w102), .second, .val (.int w103), .val (.int w104), .val (.int w105)] [(.int w106)])) (fun t k => ?_) ?_
    · show Steps p.tables e below (T49.setTop (mkF m 301 #[.val (.long p1), .second, .val (.int p2), .val (.ref ad8), .val (.long x0), .second, .val (.int w101), .val (.long w102), .second, .val (.int w103), .val (.int w104), .val (.int w105)] [(.int w104)])) _
      by_cases c301_56 : w104 = (0 : Int32)
      · refine XS.ifYes X49.here hx rfl (pc0 := 301) (pc' := 313) rfl (hb hby at_301) rfl (XT.i0_eq_t c301_56) (by decide) (by decide) ?_
        show Steps p.tables e below (T49.setTop (mkF m 313 #[.val (.long p1), .second, .val (.int p2), .val (.ref ad8), .val (.long x0), .second, .val (.int w101), .val (.long w102), .second, .val (.int w103), .val (.int w104), .val (.int w105)] [])) _
        refine XT.iconstV X49.here hx rfl (0 : Int32) (hb hby at_313) rfl ?_
        show Steps p.tables e below (T49.setTop (mkF m 314 #[.val (.long p1), .second, .val (.int p2), .val (.ref ad8), .val (.long x0), .second, .val (.int w101), .val (.long w102), .second, .val (.int w103), .val (.int w104), .val (.int w105)] [(.int (0 : Int32))])) _
        rw [show w106 = (0 : Int32) from by rw [qw106, if_pos c301_56]] at k
        exact k
      · refine XS.ifNo X49.here hx rfl (hb hby at_301) rfl (XT.i0_eq_f c301_56) ?_
        show Steps p.tables e below (T49.setTop (mkF m 304 #[.val (.long p1), .second, .val (.int p2), .val (.ref ad8), .val (.long x0), .second, .val (.int w101), .val (.long w102), .second, .val (.int w103), .val (.int w104), .val (.int w105)] [])) _
        refine XS.iload X49.here hx rfl (hb hby at_304) rfl ?_
        show Steps p.tables e below (T49.setTop (mkF m 306 #[.val (.long p1), .second, .val (.int p2), .val (.ref ad8), .val (.long x0), .second, .val (.int w101), .val (.long w102), .second, .val (.int w103), .val (.int w104), .val (.int w105)] [(.int w105)])) _
        by_cases c306_57 : w105 = (0 : Int32)
        · refine XS.ifYes X49.here hx rfl (pc0 := 306) (pc' := 313) rfl (hb hby at_306) rfl (XT.i0_eq_t c306_57) (by decide) (by decide) ?_
          show Steps p.tables e below (T49.setTop (mkF m 313 #[.val (.long p1), .second, .val (.int p2), .val (.ref ad8), .val (.long x0), .second, .val (.int w101), .val (.long w102), .second, .val (.int w103), .val (.int w104), .val (.int w105)] [])) _
          refine XT.iconstV X49.here hx rfl (0 : Int32) (hb hby at_313) rfl ?_
          show Steps p.tables e below (T49.setTop (mkF m 314 #[.val (.long p1), .second, .val (.int p2), .val (.ref ad8), .val (.long x0), .second, .val (.int w101), .val (.long w102), .second, .val (.int w103), .val (.int w104), .val (.int w105)] [(.int (0 : Int32))])) _
          rw [show w106 = (0 : Int32) from by rw [qw106, if_neg c301_56, if_pos c306_57]] at k
          exact k
        · refine XS.ifNo X49.here hx rfl (hb hby at_306) rfl (XT.i0_eq_f c306_57) ?_
          show Steps p.tables e below (T49.setTop (mkF m 309 #[.val (.long p1), .second, .val (.int p2), .val (.ref ad8), .val (.long x0), .second, .val (.int w101), .val (.long w102), .second, .val (.int w103), .val (.int w104), .val (.int w105)] [])) _
          refine XT.iconstV X49.here hx rfl (1 : Int32) (hb hby at_309) rfl ?_
          show Steps p.tables e below (T49.setTop (mkF m 310 #[.val (.long p1), .second, .val (.int p2), .val (.ref ad8), .val (.long x0), .second, .val (.int w101), .val (.long w102), .second, .val (.int w103), .val (.int w104), .val (.int w105)] [(.int (1 : Int32))])) _
          refine XS.goto X49.here hx rfl (pc0 := 310) (pc' := 314) rfl (hb hby at_310) (by decide) (by decide) ?_
          show Steps p.tables e below (T49.setTop (mkF m 314 #[.val (.long p1), .second, .val (.int p2), .val (.ref ad8), .val (.long x0), .second, .val (.int w101), .val (.long w102), .second, .val (.int w103), .val (.int w104), .val (.int w105)] [(.int (1 : Int32))])) _
          rw [show w106 = (1 : Int32) from by rw [qw106, if_neg c301_56, if_neg c306_57]] at k
          exact k
    have hfin := own_law x0 dd hd w101 qw101 w102 qw102 w103 qw103 w104 qw104 w105 qw105 w106 qw106
    refine OwnWp.retZ X49 hx hlk Bd.returns (hb hby at_314) (by decide) (by decide) (Or.inr hfin) ?_
    exact ⟨by rw [hfin], N49⟩
  · refine OwnWp.step (U' := T46.setTop (mkF m 136 #[.val (.long p1), .second, .val (.int p2), .val (.ref ad8), .unset, .unset, .unset, .unset, .unset, .unset, .unset, .unset] [])) (fun t k => ?_) ?_
    · show Steps p.tables e below (T46.setTop (mkF m 133 #[.val (.long p1), .second, .val (.int p2), .val (.ref ad8), .unset, .unset, .unset, .unset, .unset, .unset, .unset, .unset] [(.int (p2 &&& (1 : Int32)))])) _
      refine XS.ifNo X46.here hx rfl (hb hby at_133) rfl (XT.i0_eq_f c133_48) ?_
      exact k
    obtain ⟨w1, qw1⟩ : ∃ z : Int32, z = (((XT.ushr p2 (1 : Int32)) &&& (31 : Int32)) % (19 : Int32)) := ⟨_, rfl⟩
    refine OwnWp.step (U' := T46.setTop (mkF m 147 #[.val (.long p1), .second, .val (.int p2), .val (.ref ad8), .unset, .unset, .val (.int w1), .unset, .unset, .unset, .unset, .unset] [])) (fun t k => ?_) ?_
    · show Steps p.tables e below (T46.setTop (mkF m 136 #[.val (.long p1), .second, .val (.int p2), .val (.ref ad8), .unset, .unset, .unset, .unset, .unset, .unset, .unset, .unset] [])) _
      refine XS.iloadN X46.here hx rfl (hb hby at_136) rfl ?_
      show Steps p.tables e below (T46.setTop (mkF m 137 #[.val (.long p1), .second, .val (.int p2), .val (.ref ad8), .unset, .unset, .unset, .unset, .unset, .unset, .unset, .unset] [(.int p2)])) _
      refine XT.iconstV X46.here hx rfl (1 : Int32) (hb hby at_137) rfl ?_
      show Steps p.tables e below (T46.setTop (mkF m 138 #[.val (.long p1), .second, .val (.int p2), .val (.ref ad8), .unset, .unset, .unset, .unset, .unset, .unset, .unset, .unset] [(.int (1 : Int32)), (.int p2)])) _
      refine XT.iushr X46.here hx rfl (hb hby at_138) rfl ?_
      show Steps p.tables e below (T46.setTop (mkF m 139 #[.val (.long p1), .second, .val (.int p2), .val (.ref ad8), .unset, .unset, .unset, .unset, .unset, .unset, .unset, .unset] [(.int (XT.ushr p2 (1 : Int32)))])) _
      refine XT.bipushV X46.here hx rfl (31 : Int32) (hb hby at_139) rfl ?_
      show Steps p.tables e below (T46.setTop (mkF m 141 #[.val (.long p1), .second, .val (.int p2), .val (.ref ad8), .unset, .unset, .unset, .unset, .unset, .unset, .unset, .unset] [(.int (31 : Int32)), (.int (XT.ushr p2 (1 : Int32)))])) _
      refine XS.iand X46.here hx rfl (hb hby at_141) rfl ?_
      show Steps p.tables e below (T46.setTop (mkF m 142 #[.val (.long p1), .second, .val (.int p2), .val (.ref ad8), .unset, .unset, .unset, .unset, .unset, .unset, .unset, .unset] [(.int ((XT.ushr p2 (1 : Int32)) &&& (31 : Int32)))])) _
      refine XT.bipushV X46.here hx rfl (19 : Int32) (hb hby at_142) rfl ?_
      show Steps p.tables e below (T46.setTop (mkF m 144 #[.val (.long p1), .second, .val (.int p2), .val (.ref ad8), .unset, .unset, .unset, .unset, .unset, .unset, .unset, .unset] [(.int (19 : Int32)), (.int ((XT.ushr p2 (1 : Int32)) &&& (31 : Int32)))])) _
      refine iremM X46 hx rfl (hb hby at_144) rfl (by decide) ?_
      show Steps p.tables e below (T46.setTop (mkF m 145 #[.val (.long p1), .second, .val (.int p2), .val (.ref ad8), .unset, .unset, .unset, .unset, .unset, .unset, .unset, .unset] [(.int (((XT.ushr p2 (1 : Int32)) &&& (31 : Int32)) % (19 : Int32)))])) _
      refine XS.istore X46.here hx rfl (hb hby at_145) rfl (l' := #[.val (.long p1), .second, .val (.int p2), .val (.ref ad8), .unset, .unset, .val (.int (((XT.ushr p2 (1 : Int32)) &&& (31 : Int32)) % (19 : Int32))), .unset, .unset, .unset, .unset, .unset]) rfl ?_
      show Steps p.tables e below (T46.setTop (mkF m 147 #[.val (.long p1), .second, .val (.int p2), .val (.ref ad8), .unset, .unset, .val (.int (((XT.ushr p2 (1 : Int32)) &&& (31 : Int32)) % (19 : Int32))), .unset, .unset, .unset, .unset, .unset] [])) _
      rw [qw1] at k
      exact k
    obtain ⟨w2, qw2⟩ : ∃ z : Int64, z = ((own_p w1.toInt) + (p1 % (3 : Int64))) := ⟨_, rfl⟩
    refine OwnWp.step (U' := T46.setTop (mkF m 159 #[.val (.long p1), .second, .val (.int p2), .val (.ref ad8), .unset, .unset, .val (.int w1), .val (.long w2), .second, .unset, .unset, .unset] [])) (fun t k => ?_) ?_
    · show Steps p.tables e below (T46.setTop (mkF m 147 #[.val (.long p1), .second, .val (.int p2), .val (.ref ad8), .unset, .unset, .val (.int w1), .unset, .unset, .unset, .unset, .unset] [])) _
      refine XS.aloadN X46.here hx rfl (hb hby at_147) rfl rfl ?_
      show Steps p.tables e below (T46.setTop (mkF m 148 #[.val (.long p1), .second, .val (.int p2), .val (.ref ad8), .unset, .unset, .val (.int w1), .unset, .unset, .unset, .unset, .unset] [(.ref ad8)])) _
      refine XS.iload X46.here hx rfl (hb hby at_148) rfl ?_
      show Steps p.tables e below (T46.setTop (mkF m 150 #[.val (.long p1), .second, .val (.int p2), .val (.ref ad8), .unset, .unset, .val (.int w1), .unset, .unset, .unset, .unset, .unset] [(.int w1), (.ref ad8)])) _
      refine OwnA.ldJ X46 hx hZ e46 Fp (own_idx p2 w1 qw1).1 (own_idx p2 w1 qw1).2 rfl rfl (hb hby at_150) ?_
      show Steps p.tables e below (T46.setTop (mkF m 151 #[.val (.long p1), .second, .val (.int p2), .val (.ref ad8), .unset, .unset, .val (.int w1), .unset, .unset, .unset, .unset, .unset] [(.long (own_p w1.toInt))])) _
      refine XT.lloadN X46.here hx rfl (hb hby at_151) rfl ?_
      show Steps p.tables e below (T46.setTop (mkF m 152 #[.val (.long p1), .second, .val (.int p2), .val (.ref ad8), .unset, .unset, .val (.int w1), .unset, .unset, .unset, .unset, .unset] [(.long p1), (.long (own_p w1.toInt))])) _
      refine X46.ldc2J hx hown (mvT hZ (hw _ (List.mem_of_getElem? (i := 25) rfl))) rfl (hb hby at_152) ?_
      show Steps p.tables e below (T46.setTop (mkF m 155 #[.val (.long p1), .second, .val (.int p2), .val (.ref ad8), .unset, .unset, .val (.int w1), .unset, .unset, .unset, .unset, .unset] [(.long (3 : Int64)), (.long p1), (.long (own_p w1.toInt))])) _
      refine own_lrem X46 hx rfl (hb hby at_155) rfl (by decide) ?_
      show Steps p.tables e below (T46.setTop (mkF m 156 #[.val (.long p1), .second, .val (.int p2), .val (.ref ad8), .unset, .unset, .val (.int w1), .unset, .unset, .unset, .unset, .unset] [(.long (p1 % (3 : Int64))), (.long (own_p w1.toInt))])) _
      refine XT.ladd X46.here hx rfl (hb hby at_156) rfl ?_
      show Steps p.tables e below (T46.setTop (mkF m 157 #[.val (.long p1), .second, .val (.int p2), .val (.ref ad8), .unset, .unset, .val (.int w1), .unset, .unset, .unset, .unset, .unset] [(.long ((own_p w1.toInt) + (p1 % (3 : Int64))))])) _
      refine XT.lstore X46.here hx rfl (hb hby at_157) rfl (l' := #[.val (.long p1), .second, .val (.int p2), .val (.ref ad8), .unset, .unset, .val (.int w1), .val (.long ((own_p w1.toInt) + (p1 % (3 : Int64)))), .second, .unset, .unset, .unset]) rfl ?_
      show Steps p.tables e below (T46.setTop (mkF m 159 #[.val (.long p1), .second, .val (.int p2), .val (.ref ad8), .unset, .unset, .val (.int w1), .val (.long ((own_p w1.toInt) + (p1 % (3 : Int64)))), .second, .unset, .unset, .unset] [])) _
      rw [qw2] at k
      exact k
    refine OwnWp.step (U' := T46.setTop (mkF m 165 #[.val (.long p1), .second, .val (.int p2), .val (.ref ad8), .unset, .unset, .val (.int w1), .val (.long w2), .second, .unset, .unset, .unset] [(.int ((XT.ushr p2 (6 : Int32)) &&& (1 : Int32)))])) (fun t k => ?_) ?_
    · show Steps p.tables e below (T46.setTop (mkF m 159 #[.val (.long p1), .second, .val (.int p2), .val (.ref ad8), .unset, .unset, .val (.int w1), .val (.long w2), .second, .unset, .unset, .unset] [])) _
      refine XS.iloadN X46.here hx rfl (hb hby at_159) rfl ?_
      show Steps p.tables e below (T46.setTop (mkF m 160 #[.val (.long p1), .second, .val (.int p2), .val (.ref ad8), .unset, .unset, .val (.int w1), .val (.long w2), .second, .unset, .unset, .unset] [(.int p2)])) _
      refine XT.bipushV X46.here hx rfl (6 : Int32) (hb hby at_160) rfl ?_
      show Steps p.tables e below (T46.setTop (mkF m 162 #[.val (.long p1), .second, .val (.int p2), .val (.ref ad8), .unset, .unset, .val (.int w1), .val (.long w2), .second, .unset, .unset, .unset] [(.int (6 : Int32)), (.int p2)])) _
      refine XT.iushr X46.here hx rfl (hb hby at_162) rfl ?_
      show Steps p.tables e below (T46.setTop (mkF m 163 #[.val (.long p1), .second, .val (.int p2), .val (.ref ad8), .unset, .unset, .val (.int w1), .val (.long w2), .second, .unset, .unset, .unset] [(.int (XT.ushr p2 (6 : Int32)))])) _
      refine XT.iconstV X46.here hx rfl (1 : Int32) (hb hby at_163) rfl ?_
      show Steps p.tables e below (T46.setTop (mkF m 164 #[.val (.long p1), .second, .val (.int p2), .val (.ref ad8), .unset, .unset, .val (.int w1), .val (.long w2), .second, .unset, .unset, .unset] [(.int (1 : Int32)), (.int (XT.ushr p2 (6 : Int32)))])) _
      refine XS.iand X46.here hx rfl (hb hby at_164) rfl ?_
      show Steps p.tables e below (T46.setTop (mkF m 165 #[.val (.long p1), .second, .val (.int p2), .val (.ref ad8), .unset, .unset, .val (.int w1), .val (.long w2), .second, .unset, .unset, .unset] [(.int ((XT.ushr p2 (6 : Int32)) &&& (1 : Int32)))])) _
      exact k
    obtain ⟨w3, qw3⟩ : ∃ z : Int64, z = (if ((XT.ushr p2 (6 : Int32)) &&& (1 : Int32)) = (0 : Int32) then w2 else (-w2)) := ⟨_, rfl⟩
    refine OwnWp.step (U' := T46.setTop (mkF m 176 #[.val (.long p1), .second, .val (.int p2), .val (.ref ad8), .unset, .unset, .val (.int w1), .val (.long w2), .second, .unset, .unset, .unset] [(.long w3)])) (fun t k => ?_) ?_
    · show Steps p.tables e below (T46.setTop (mkF m 165 #[.val (.long p1), .second, .val (.int p2), .val (.ref ad8), .unset, .unset, .val (.int w1), .val (.long w2), .second, .unset, .unset, .unset] [(.int ((XT.ushr p2 (6 : Int32)) &&& (1 : Int32)))])) _
      by_cases c165_58 : ((XT.ushr p2 (6 : Int32)) &&& (1 : Int32)) = (0 : Int32)
      · refine XS.ifYes X46.here hx rfl (pc0 := 165) (pc' := 174) rfl (hb hby at_165) rfl (XT.i0_eq_t c165_58) (by decide) (by decide) ?_
        show Steps p.tables e below (T46.setTop (mkF m 174 #[.val (.long p1), .second, .val (.int p2), .val (.ref ad8), .unset, .unset, .val (.int w1), .val (.long w2), .second, .unset, .unset, .unset] [])) _
        refine XT.lload X46.here hx rfl (hb hby at_174) rfl ?_
        show Steps p.tables e below (T46.setTop (mkF m 176 #[.val (.long p1), .second, .val (.int p2), .val (.ref ad8), .unset, .unset, .val (.int w1), .val (.long w2), .second, .unset, .unset, .unset] [(.long w2)])) _
        rw [show w3 = w2 from by rw [qw3, if_pos c165_58]] at k
        exact k
      · refine XS.ifNo X46.here hx rfl (hb hby at_165) rfl (XT.i0_eq_f c165_58) ?_
        show Steps p.tables e below (T46.setTop (mkF m 168 #[.val (.long p1), .second, .val (.int p2), .val (.ref ad8), .unset, .unset, .val (.int w1), .val (.long w2), .second, .unset, .unset, .unset] [])) _
        refine XT.lload X46.here hx rfl (hb hby at_168) rfl ?_
        show Steps p.tables e below (T46.setTop (mkF m 170 #[.val (.long p1), .second, .val (.int p2), .val (.ref ad8), .unset, .unset, .val (.int w1), .val (.long w2), .second, .unset, .unset, .unset] [(.long w2)])) _
        refine XT.lneg X46.here hx rfl (hb hby at_170) rfl ?_
        show Steps p.tables e below (T46.setTop (mkF m 171 #[.val (.long p1), .second, .val (.int p2), .val (.ref ad8), .unset, .unset, .val (.int w1), .val (.long w2), .second, .unset, .unset, .unset] [(.long (-w2))])) _
        refine XS.goto X46.here hx rfl (pc0 := 171) (pc' := 176) rfl (hb hby at_171) (by decide) (by decide) ?_
        show Steps p.tables e below (T46.setTop (mkF m 176 #[.val (.long p1), .second, .val (.int p2), .val (.ref ad8), .unset, .unset, .val (.int w1), .val (.long w2), .second, .unset, .unset, .unset] [(.long (-w2))])) _
        rw [show w3 = (-w2) from by rw [qw3, if_neg c165_58]] at k
        exact k
    refine OwnWp.step (U' := T46.setTop (mkF m 191 #[.val (.long p1), .second, .val (.int p2), .val (.ref ad8), .val (.long w3), .second, .val (.int w1), .val (.long w2), .second, .unset, .unset, .unset] [])) (fun t k => ?_) ?_
    · show Steps p.tables e below (T46.setTop (mkF m 176 #[.val (.long p1), .second, .val (.int p2), .val (.ref ad8), .unset, .unset, .val (.int w1), .val (.long w2), .second, .unset, .unset, .unset] [(.long w3)])) _
      refine XT.lstore X46.here hx rfl (hb hby at_176) rfl (l' := #[.val (.long p1), .second, .val (.int p2), .val (.ref ad8), .val (.long w3), .second, .val (.int w1), .val (.long w2), .second, .unset, .unset, .unset]) rfl ?_
      show Steps p.tables e below (T46.setTop (mkF m 178 #[.val (.long p1), .second, .val (.int p2), .val (.ref ad8), .val (.long w3), .second, .val (.int w1), .val (.long w2), .second, .unset, .unset, .unset] [])) _
      refine XS.goto X46.here hx rfl (pc0 := 178) (pc' := 191) rfl (hb hby at_178) (by decide) (by decide) ?_
      show Steps p.tables e below (T46.setTop (mkF m 191 #[.val (.long p1), .second, .val (.int p2), .val (.ref ad8), .val (.long w3), .second, .val (.int w1), .val (.long w2), .second, .unset, .unset, .unset] [])) _
      exact k
    obtain ⟨x0, qx0⟩ : ∃ z : Int64, z = w3 := ⟨_, rfl⟩
    rw [← qx0]
    show OwnWp p e below s _ _ _ (T46.setTop (mkF m 191 #[.val (.long p1), .second, .val (.int p2), .val (.ref ad8), .val (.long x0), .second, .val (.int w1), .val (.long w2), .second, .unset, .unset, .unset] []))
    refine OwnWp.step (U' := T46.setTop (mkF m 193 #[.val (.long p1), .second, .val (.int p2), .val (.ref ad8), .val (.long x0), .second, .val (.int w1), .val (.long w2), .second, .unset, .unset, .unset] [(.long x0)])) (fun t k => ?_) ?_
    · show Steps p.tables e below (T46.setTop (mkF m 191 #[.val (.long p1), .second, .val (.int p2), .val (.ref ad8), .val (.long x0), .second, .val (.int w1), .val (.long w2), .second, .unset, .unset, .unset] [])) _
      refine XT.lload X46.here hx rfl (hb hby at_191) rfl ?_
      show Steps p.tables e below (T46.setTop (mkF m 193 #[.val (.long p1), .second, .val (.int p2), .val (.ref ad8), .val (.long x0), .second, .val (.int w1), .val (.long w2), .second, .unset, .unset, .unset] [(.long x0)])) _
      exact k
    obtain ⟨_, _, ⟨T59, L59, k59, n59⟩, -, X59, ⟨Lc59, hQ59, l59, y59, z59⟩, st59⟩ := Jvm.LawKit.callS X46 hx (y := (⟨"com/example/utu/utu/base/WholeNumbers", "length", "(J)I"⟩ : MethodName)) hown (mvT hZ (hw _ (List.mem_of_getElem? (i := 19) rfl))) (mvT hZ (hw _ (List.mem_of_getElem? (i := 20) rfl))) (mvT hZ (hw _ (List.mem_of_getElem? (i := 21) rfl))) (mvT hZ (hw _ (List.mem_of_getElem? (i := 22) rfl))) (by decide) (backOf (W := 0) (rm1 l Z a0 hw [] x0 h46 n0 Z46) hZ (hw _ (List.mem_of_getElem? (i := 22) rfl)) (hw _ (List.mem_of_getElem? (i := 21) rfl)) (by decide) (by decide)) (g := (mkF m 193 #[.val (.long p1), .second, .val (.int p2), .val (.ref ad8), .val (.long x0), .second, .val (.int w1), .val (.long w2), .second, .unset, .unset, .unset] [(.long x0)])) rfl (by rw [hml]; rfl) (argsL := [(.long x0)]) (rest := []) (lenOf pd_1 rfl) rfl (by show 2 * 0 + _ ≤ _; exact Nat.le_of_eq rfl) (hb hby at_193) (fun _ _ => ⟨rfl, e46, (by dsimp only [Pt.cells]; decide), (by dsimp only [Pt.slots]; decide)⟩)
    dsimp only [Pt.U, Pt.locs, Pt.cells, Pt.slots] at X59 l59 y59 z59 st59 hQ59
    subst l59 y59 z59
    obtain ⟨d59, rfl, Nc59, hp59, hd59⟩ := hQ59
    have N59 := Fr.app N46 Nc59
    refine OwnWp.step st59 ?_
    have eh59 : T59.heap = h46 := hp59
    show OwnWp p e below s _ _ _ (T59.setTop (mkF m 196 #[.val (.long p1), .second, .val (.int p2), .val (.ref ad8), .val (.long x0), .second, .val (.int w1), .val (.long w2), .second, .unset, .unset, .unset] [(.int (if x0 < (0 : Int64) then d59 + (1 : Int32) else d59))]))
    obtain ⟨dd, qdd⟩ : ∃ z : Int32, z = d59 := ⟨_, rfl⟩
    rw [← qdd] at hd59 ⊢
    have hd := hd59
    show OwnWp p e below s _ _ _ (T59.setTop (mkF m 196 #[.val (.long p1), .second, .val (.int p2), .val (.ref ad8), .val (.long x0), .second, .val (.int w1), .val (.long w2), .second, .unset, .unset, .unset] [(.int (if x0 < (0 : Int64) then dd + (1 : Int32) else dd))]))
    obtain ⟨w101, qw101⟩ : ∃ z : Int32, z = (if x0 < (0 : Int64) then dd + (1 : Int32) else dd) := ⟨_, rfl⟩
    refine OwnWp.step (U' := T59.setTop (mkF m 198 #[.val (.long p1), .second, .val (.int p2), .val (.ref ad8), .val (.long x0), .second, .val (.int w101), .val (.long w2), .second, .unset, .unset, .unset] [])) (fun t k => ?_) ?_
    · show Steps p.tables e below (T59.setTop (mkF m 196 #[.val (.long p1), .second, .val (.int p2), .val (.ref ad8), .val (.long x0), .second, .val (.int w1), .val (.long w2), .second, .unset, .unset, .unset] [(.int (if x0 < (0 : Int64) then dd + (1 : Int32) else dd))])) _
      refine XS.istore X59.here hx rfl (hb hby at_196) rfl (l' := #[.val (.long p1), .second, .val (.int p2), .val (.ref ad8), .val (.long x0), .second, .val (.int (if x0 < (0 : Int64) then dd + (1 : Int32) else dd)), .val (.long w2), .second, .unset, .unset, .unset]) rfl ?_
      show Steps p.tables e below (T59.setTop (mkF m 198 #[.val (.long p1), .second, .val (.int p2), .val (.ref ad8), .val (.long x0), .second, .val (.int (if x0 < (0 : Int64) then dd + (1 : Int32) else dd)), .val (.long w2), .second, .unset, .unset, .unset] [])) _
      rw [qw101] at k
      exact k
    refine OwnWp.step (U' := T59.setTop (mkF m 202 #[.val (.long p1), .second, .val (.int p2), .val (.ref ad8), .val (.long x0), .second, .val (.int w101), .val (.long w2), .second, .unset, .unset, .unset] [(.int (XT.cmpL x0 (0 : Int64)))])) (fun t k => ?_) ?_
    · show Steps p.tables e below (T59.setTop (mkF m 198 #[.val (.long p1), .second, .val (.int p2), .val (.ref ad8), .val (.long x0), .second, .val (.int w101), .val (.long w2), .second, .unset, .unset, .unset] [])) _
      refine XT.lload X59.here hx rfl (hb hby at_198) rfl ?_
      show Steps p.tables e below (T59.setTop (mkF m 200 #[.val (.long p1), .second, .val (.int p2), .val (.ref ad8), .val (.long x0), .second, .val (.int w101), .val (.long w2), .second, .unset, .unset, .unset] [(.long x0)])) _
      refine XT.lconstV X59.here hx rfl (0 : Int64) (hb hby at_200) rfl ?_
      show Steps p.tables e below (T59.setTop (mkF m 201 #[.val (.long p1), .second, .val (.int p2), .val (.ref ad8), .val (.long x0), .second, .val (.int w101), .val (.long w2), .second, .unset, .unset, .unset] [(.long (0 : Int64)), (.long x0)])) _
      refine XT.lcmp X59.here hx rfl (hb hby at_201) rfl ?_
      show Steps p.tables e below (T59.setTop (mkF m 202 #[.val (.long p1), .second, .val (.int p2), .val (.ref ad8), .val (.long x0), .second, .val (.int w101), .val (.long w2), .second, .unset, .unset, .unset] [(.int (XT.cmpL x0 (0 : Int64)))])) _
      exact k
    obtain ⟨w102, qw102⟩ : ∃ z : Int64, z = (if x0 < (0 : Int64) then x0 else (-x0)) := ⟨_, rfl⟩
    refine OwnWp.step (U' := T59.setTop (mkF m 213 #[.val (.long p1), .second, .val (.int p2), .val (.ref ad8), .val (.long x0), .second, .val (.int w101), .val (.long w2), .second, .unset, .unset, .unset] [(.long w102)])) (fun t k => ?_) ?_
    · show Steps p.tables e below (T59.setTop (mkF m 202 #[.val (.long p1), .second, .val (.int p2), .val (.ref ad8), .val (.long x0), .second, .val (.int w101), .val (.long w2), .second, .unset, .unset, .unset] [(.int (XT.cmpL x0 (0 : Int64)))])) _
      by_cases c202_60 : x0 < (0 : Int64)
      · refine XS.ifNo X59.here hx rfl (hb hby at_202) rfl (XT.ll_ge_f c202_60) ?_
        show Steps p.tables e below (T59.setTop (mkF m 205 #[.val (.long p1), .second, .val (.int p2), .val (.ref ad8), .val (.long x0), .second, .val (.int w101), .val (.long w2), .second, .unset, .unset, .unset] [])) _
        refine XT.lload X59.here hx rfl (hb hby at_205) rfl ?_
        show Steps p.tables e below (T59.setTop (mkF m 207 #[.val (.long p1), .second, .val (.int p2), .val (.ref ad8), .val (.long x0), .second, .val (.int w101), .val (.long w2), .second, .unset, .unset, .unset] [(.long x0)])) _
        refine XS.goto X59.here hx rfl (pc0 := 207) (pc' := 213) rfl (hb hby at_207) (by decide) (by decide) ?_
        show Steps p.tables e below (T59.setTop (mkF m 213 #[.val (.long p1), .second, .val (.int p2), .val (.ref ad8), .val (.long x0), .second, .val (.int w101), .val (.long w2), .second, .unset, .unset, .unset] [(.long x0)])) _
        rw [show w102 = x0 from by rw [qw102, if_pos c202_60]] at k
        exact k
      · refine XS.ifYes X59.here hx rfl (pc0 := 202) (pc' := 210) rfl (hb hby at_202) rfl (XT.ll_ge_t c202_60) (by decide) (by decide) ?_
        show Steps p.tables e below (T59.setTop (mkF m 210 #[.val (.long p1), .second, .val (.int p2), .val (.ref ad8), .val (.long x0), .second, .val (.int w101), .val (.long w2), .second, .unset, .unset, .unset] [])) _
        refine XT.lload X59.here hx rfl (hb hby at_210) rfl ?_
        show Steps p.tables e below (T59.setTop (mkF m 212 #[.val (.long p1), .second, .val (.int p2), .val (.ref ad8), .val (.long x0), .second, .val (.int w101), .val (.long w2), .second, .unset, .unset, .unset] [(.long x0)])) _
        refine XT.lneg X59.here hx rfl (hb hby at_212) rfl ?_
        show Steps p.tables e below (T59.setTop (mkF m 213 #[.val (.long p1), .second, .val (.int p2), .val (.ref ad8), .val (.long x0), .second, .val (.int w101), .val (.long w2), .second, .unset, .unset, .unset] [(.long (-x0))])) _
        rw [show w102 = (-x0) from by rw [qw102, if_neg c202_60]] at k
        exact k
    refine OwnWp.step (U' := T59.setTop (mkF m 219 #[.val (.long p1), .second, .val (.int p2), .val (.ref ad8), .val (.long x0), .second, .val (.int w101), .val (.long w102), .second, .unset, .unset, .unset] [(.int (XT.cmpL x0 (0 : Int64)))])) (fun t k => ?_) ?_
    · show Steps p.tables e below (T59.setTop (mkF m 213 #[.val (.long p1), .second, .val (.int p2), .val (.ref ad8), .val (.long x0), .second, .val (.int w101), .val (.long w2), .second, .unset, .unset, .unset] [(.long w102)])) _
      refine XT.lstore X59.here hx rfl (hb hby at_213) rfl (l' := #[.val (.long p1), .second, .val (.int p2), .val (.ref ad8), .val (.long x0), .second, .val (.int w101), .val (.long w102), .second, .unset, .unset, .unset]) rfl ?_
      show Steps p.tables e below (T59.setTop (mkF m 215 #[.val (.long p1), .second, .val (.int p2), .val (.ref ad8), .val (.long x0), .second, .val (.int w101), .val (.long w102), .second, .unset, .unset, .unset] [])) _
      refine XT.lload X59.here hx rfl (hb hby at_215) rfl ?_
      show Steps p.tables e below (T59.setTop (mkF m 217 #[.val (.long p1), .second, .val (.int p2), .val (.ref ad8), .val (.long x0), .second, .val (.int w101), .val (.long w102), .second, .unset, .unset, .unset] [(.long x0)])) _
      refine XT.lconstV X59.here hx rfl (0 : Int64) (hb hby at_217) rfl ?_
      show Steps p.tables e below (T59.setTop (mkF m 218 #[.val (.long p1), .second, .val (.int p2), .val (.ref ad8), .val (.long x0), .second, .val (.int w101), .val (.long w102), .second, .unset, .unset, .unset] [(.long (0 : Int64)), (.long x0)])) _
      refine XT.lcmp X59.here hx rfl (hb hby at_218) rfl ?_
      show Steps p.tables e below (T59.setTop (mkF m 219 #[.val (.long p1), .second, .val (.int p2), .val (.ref ad8), .val (.long x0), .second, .val (.int w101), .val (.long w102), .second, .unset, .unset, .unset] [(.int (XT.cmpL x0 (0 : Int64)))])) _
      exact k
    obtain ⟨w103, qw103⟩ : ∃ z : Int32, z = (if x0 < (0 : Int64) then (w101 - (1 : Int32)) else w101) := ⟨_, rfl⟩
    refine OwnWp.step (U' := T59.setTop (mkF m 231 #[.val (.long p1), .second, .val (.int p2), .val (.ref ad8), .val (.long x0), .second, .val (.int w101), .val (.long w102), .second, .unset, .unset, .unset] [(.int w103)])) (fun t k => ?_) ?_
    · show Steps p.tables e below (T59.setTop (mkF m 219 #[.val (.long p1), .second, .val (.int p2), .val (.ref ad8), .val (.long x0), .second, .val (.int w101), .val (.long w102), .second, .unset, .unset, .unset] [(.int (XT.cmpL x0 (0 : Int64)))])) _
      by_cases c219_61 : x0 < (0 : Int64)
      · refine XS.ifNo X59.here hx rfl (hb hby at_219) rfl (XT.ll_ge_f c219_61) ?_
        show Steps p.tables e below (T59.setTop (mkF m 222 #[.val (.long p1), .second, .val (.int p2), .val (.ref ad8), .val (.long x0), .second, .val (.int w101), .val (.long w102), .second, .unset, .unset, .unset] [])) _
        refine XS.iload X59.here hx rfl (hb hby at_222) rfl ?_
        show Steps p.tables e below (T59.setTop (mkF m 224 #[.val (.long p1), .second, .val (.int p2), .val (.ref ad8), .val (.long x0), .second, .val (.int w101), .val (.long w102), .second, .unset, .unset, .unset] [(.int w101)])) _
        refine XT.iconstV X59.here hx rfl (1 : Int32) (hb hby at_224) rfl ?_
        show Steps p.tables e below (T59.setTop (mkF m 225 #[.val (.long p1), .second, .val (.int p2), .val (.ref ad8), .val (.long x0), .second, .val (.int w101), .val (.long w102), .second, .unset, .unset, .unset] [(.int (1 : Int32)), (.int w101)])) _
        refine XS.isub X59.here hx rfl (hb hby at_225) rfl ?_
        show Steps p.tables e below (T59.setTop (mkF m 226 #[.val (.long p1), .second, .val (.int p2), .val (.ref ad8), .val (.long x0), .second, .val (.int w101), .val (.long w102), .second, .unset, .unset, .unset] [(.int (w101 - (1 : Int32)))])) _
        refine XS.goto X59.here hx rfl (pc0 := 226) (pc' := 231) rfl (hb hby at_226) (by decide) (by decide) ?_
        show Steps p.tables e below (T59.setTop (mkF m 231 #[.val (.long p1), .second, .val (.int p2), .val (.ref ad8), .val (.long x0), .second, .val (.int w101), .val (.long w102), .second, .unset, .unset, .unset] [(.int (w101 - (1 : Int32)))])) _
        rw [show w103 = (w101 - (1 : Int32)) from by rw [qw103, if_pos c219_61]] at k
        exact k
      · refine XS.ifYes X59.here hx rfl (pc0 := 219) (pc' := 229) rfl (hb hby at_219) rfl (XT.ll_ge_t c219_61) (by decide) (by decide) ?_
        show Steps p.tables e below (T59.setTop (mkF m 229 #[.val (.long p1), .second, .val (.int p2), .val (.ref ad8), .val (.long x0), .second, .val (.int w101), .val (.long w102), .second, .unset, .unset, .unset] [])) _
        refine XS.iload X59.here hx rfl (hb hby at_229) rfl ?_
        show Steps p.tables e below (T59.setTop (mkF m 231 #[.val (.long p1), .second, .val (.int p2), .val (.ref ad8), .val (.long x0), .second, .val (.int w101), .val (.long w102), .second, .unset, .unset, .unset] [(.int w101)])) _
        rw [show w103 = w101 from by rw [qw103, if_neg c219_61]] at k
        exact k
    refine OwnWp.step (U' := T59.setTop (mkF m 236 #[.val (.long p1), .second, .val (.int p2), .val (.ref ad8), .val (.long x0), .second, .val (.int w101), .val (.long w102), .second, .val (.int w103), .unset, .unset] [(.int (1 : Int32)), (.int w103)])) (fun t k => ?_) ?_
    · show Steps p.tables e below (T59.setTop (mkF m 231 #[.val (.long p1), .second, .val (.int p2), .val (.ref ad8), .val (.long x0), .second, .val (.int w101), .val (.long w102), .second, .unset, .unset, .unset] [(.int w103)])) _
      refine XS.istore X59.here hx rfl (hb hby at_231) rfl (l' := #[.val (.long p1), .second, .val (.int p2), .val (.ref ad8), .val (.long x0), .second, .val (.int w101), .val (.long w102), .second, .val (.int w103), .unset, .unset]) rfl ?_
      show Steps p.tables e below (T59.setTop (mkF m 233 #[.val (.long p1), .second, .val (.int p2), .val (.ref ad8), .val (.long x0), .second, .val (.int w101), .val (.long w102), .second, .val (.int w103), .unset, .unset] [])) _
      refine XS.iload X59.here hx rfl (hb hby at_233) rfl ?_
      show Steps p.tables e below (T59.setTop (mkF m 235 #[.val (.long p1), .second, .val (.int p2), .val (.ref ad8), .val (.long x0), .second, .val (.int w101), .val (.long w102), .second, .val (.int w103), .unset, .unset] [(.int w103)])) _
      refine XT.iconstV X59.here hx rfl (1 : Int32) (hb hby at_235) rfl ?_
      show Steps p.tables e below (T59.setTop (mkF m 236 #[.val (.long p1), .second, .val (.int p2), .val (.ref ad8), .val (.long x0), .second, .val (.int w101), .val (.long w102), .second, .val (.int w103), .unset, .unset] [(.int (1 : Int32)), (.int w103)])) _
      exact k
    obtain ⟨hv, hlo, hhi⟩ := own_dd x0 dd hd w101 qw101 w103 qw103
    refine OwnWp.step (U' := T59.setTop (mkF m 251 #[.val (.long p1), .second, .val (.int p2), .val (.ref ad8), .val (.long x0), .second, .val (.int w101), .val (.long w102), .second, .val (.int w103), .unset, .unset] [(.int (1 : Int32)), (.int w103)])) (fun t k => ?_) ?_
    · show Steps p.tables e below (T59.setTop (mkF m 236 #[.val (.long p1), .second, .val (.int p2), .val (.ref ad8), .val (.long x0), .second, .val (.int w101), .val (.long w102), .second, .val (.int w103), .unset, .unset] [(.int (1 : Int32)), (.int w103)])) _
      refine XS.icmpNo X59.here hx rfl (hb hby at_236) rfl (XT.ii_lt_f hlo) ?_
      show Steps p.tables e below (T59.setTop (mkF m 239 #[.val (.long p1), .second, .val (.int p2), .val (.ref ad8), .val (.long x0), .second, .val (.int w101), .val (.long w102), .second, .val (.int w103), .unset, .unset] [])) _
      refine XS.iload X59.here hx rfl (hb hby at_239) rfl ?_
      show Steps p.tables e below (T59.setTop (mkF m 241 #[.val (.long p1), .second, .val (.int p2), .val (.ref ad8), .val (.long x0), .second, .val (.int w101), .val (.long w102), .second, .val (.int w103), .unset, .unset] [(.int w103)])) _
      refine XT.bipushV X59.here hx rfl (19 : Int32) (hb hby at_241) rfl ?_
      show Steps p.tables e below (T59.setTop (mkF m 243 #[.val (.long p1), .second, .val (.int p2), .val (.ref ad8), .val (.long x0), .second, .val (.int w101), .val (.long w102), .second, .val (.int w103), .unset, .unset] [(.int (19 : Int32)), (.int w103)])) _
      refine XS.icmpYes X59.here hx rfl (pc0 := 243) (pc' := 248) rfl (hb hby at_243) rfl (XT.ii_le_t hhi) (by decide) (by decide) ?_
      show Steps p.tables e below (T59.setTop (mkF m 248 #[.val (.long p1), .second, .val (.int p2), .val (.ref ad8), .val (.long x0), .second, .val (.int w101), .val (.long w102), .second, .val (.int w103), .unset, .unset] [])) _
      refine XS.iload X59.here hx rfl (hb hby at_248) rfl ?_
      show Steps p.tables e below (T59.setTop (mkF m 250 #[.val (.long p1), .second, .val (.int p2), .val (.ref ad8), .val (.long x0), .second, .val (.int w101), .val (.long w102), .second, .val (.int w103), .unset, .unset] [(.int w103)])) _
      refine XT.iconstV X59.here hx rfl (1 : Int32) (hb hby at_250) rfl ?_
      show Steps p.tables e below (T59.setTop (mkF m 251 #[.val (.long p1), .second, .val (.int p2), .val (.ref ad8), .val (.long x0), .second, .val (.int w101), .val (.long w102), .second, .val (.int w103), .unset, .unset] [(.int (1 : Int32)), (.int w103)])) _
      exact k
    obtain ⟨w104, qw104⟩ : ∃ z : Int32, z = (if w103 = (1 : Int32) then (1 : Int32) else (if (-(own_p (w103 - (1 : Int32)).toInt)) < w102 then (0 : Int32) else (1 : Int32))) := ⟨_, rfl⟩
    refine OwnWp.step (U' := T59.setTop (mkF m 272 #[.val (.long p1), .second, .val (.int p2), .val (.ref ad8), .val (.long x0), .second, .val (.int w101), .val (.long w102), .second, .val (.int w103), .unset, .unset] [(.int w104)])) (fun t k => ?_) ?_
    · show Steps p.tables e below (T59.setTop (mkF m 251 #[.val (.long p1), .second, .val (.int p2), .val (.ref ad8), .val (.long x0), .second, .val (.int w101), .val (.long w102), .second, .val (.int w103), .unset, .unset] [(.int (1 : Int32)), (.int w103)])) _
      by_cases c251_62 : w103 = (1 : Int32)
      · refine XS.icmpYes X59.here hx rfl (pc0 := 251) (pc' := 267) rfl (hb hby at_251) rfl (XT.ii_eq_t c251_62) (by decide) (by decide) ?_
        show Steps p.tables e below (T59.setTop (mkF m 267 #[.val (.long p1), .second, .val (.int p2), .val (.ref ad8), .val (.long x0), .second, .val (.int w101), .val (.long w102), .second, .val (.int w103), .unset, .unset] [])) _
        refine XT.iconstV X59.here hx rfl (1 : Int32) (hb hby at_267) rfl ?_
        show Steps p.tables e below (T59.setTop (mkF m 268 #[.val (.long p1), .second, .val (.int p2), .val (.ref ad8), .val (.long x0), .second, .val (.int w101), .val (.long w102), .second, .val (.int w103), .unset, .unset] [(.int (1 : Int32))])) _
        refine XS.goto X59.here hx rfl (pc0 := 268) (pc' := 272) rfl (hb hby at_268) (by decide) (by decide) ?_
        show Steps p.tables e below (T59.setTop (mkF m 272 #[.val (.long p1), .second, .val (.int p2), .val (.ref ad8), .val (.long x0), .second, .val (.int w101), .val (.long w102), .second, .val (.int w103), .unset, .unset] [(.int (1 : Int32))])) _
        rw [show w104 = (1 : Int32) from by rw [qw104, if_pos c251_62]] at k
        exact k
      · refine XS.icmpNo X59.here hx rfl (hb hby at_251) rfl (XT.ii_eq_f c251_62) ?_
        show Steps p.tables e below (T59.setTop (mkF m 254 #[.val (.long p1), .second, .val (.int p2), .val (.ref ad8), .val (.long x0), .second, .val (.int w101), .val (.long w102), .second, .val (.int w103), .unset, .unset] [])) _
        refine XT.lload X59.here hx rfl (hb hby at_254) rfl ?_
        show Steps p.tables e below (T59.setTop (mkF m 256 #[.val (.long p1), .second, .val (.int p2), .val (.ref ad8), .val (.long x0), .second, .val (.int w101), .val (.long w102), .second, .val (.int w103), .unset, .unset] [(.long w102)])) _
        refine XS.aloadN X59.here hx rfl (hb hby at_256) rfl rfl ?_
        show Steps p.tables e below (T59.setTop (mkF m 257 #[.val (.long p1), .second, .val (.int p2), .val (.ref ad8), .val (.long x0), .second, .val (.int w101), .val (.long w102), .second, .val (.int w103), .unset, .unset] [(.ref ad8), (.long w102)])) _
        refine XS.iload X59.here hx rfl (hb hby at_257) rfl ?_
        show Steps p.tables e below (T59.setTop (mkF m 259 #[.val (.long p1), .second, .val (.int p2), .val (.ref ad8), .val (.long x0), .second, .val (.int w101), .val (.long w102), .second, .val (.int w103), .unset, .unset] [(.int w103), (.ref ad8), (.long w102)])) _
        refine XT.iconstV X59.here hx rfl (1 : Int32) (hb hby at_259) rfl ?_
        show Steps p.tables e below (T59.setTop (mkF m 260 #[.val (.long p1), .second, .val (.int p2), .val (.ref ad8), .val (.long x0), .second, .val (.int w101), .val (.long w102), .second, .val (.int w103), .unset, .unset] [(.int (1 : Int32)), (.int w103), (.ref ad8), (.long w102)])) _
        refine XS.isub X59.here hx rfl (hb hby at_260) rfl ?_
        show Steps p.tables e below (T59.setTop (mkF m 261 #[.val (.long p1), .second, .val (.int p2), .val (.ref ad8), .val (.long x0), .second, .val (.int w101), .val (.long w102), .second, .val (.int w103), .unset, .unset] [(.int (w103 - (1 : Int32))), (.ref ad8), (.long w102)])) _
        refine OwnA.ldJ X59 hx hZ eh59 Fp (own_ix1 w103 dd hv hd).1 (own_ix1 w103 dd hv hd).2 rfl rfl (hb hby at_261) ?_
        show Steps p.tables e below (T59.setTop (mkF m 262 #[.val (.long p1), .second, .val (.int p2), .val (.ref ad8), .val (.long x0), .second, .val (.int w101), .val (.long w102), .second, .val (.int w103), .unset, .unset] [(.long (own_p (w103 - (1 : Int32)).toInt)), (.long w102)])) _
        refine XT.lneg X59.here hx rfl (hb hby at_262) rfl ?_
        show Steps p.tables e below (T59.setTop (mkF m 263 #[.val (.long p1), .second, .val (.int p2), .val (.ref ad8), .val (.long x0), .second, .val (.int w101), .val (.long w102), .second, .val (.int w103), .unset, .unset] [(.long (-(own_p (w103 - (1 : Int32)).toInt))), (.long w102)])) _
        refine XT.lcmp X59.here hx rfl (hb hby at_263) rfl ?_
        show Steps p.tables e below (T59.setTop (mkF m 264 #[.val (.long p1), .second, .val (.int p2), .val (.ref ad8), .val (.long x0), .second, .val (.int w101), .val (.long w102), .second, .val (.int w103), .unset, .unset] [(.int (XT.cmpL w102 (-(own_p (w103 - (1 : Int32)).toInt))))])) _
        by_cases c264_63 : (-(own_p (w103 - (1 : Int32)).toInt)) < w102
        · refine XS.ifYes X59.here hx rfl (pc0 := 264) (pc' := 271) rfl (hb hby at_264) rfl (XT.ll_gt_t c264_63) (by decide) (by decide) ?_
          show Steps p.tables e below (T59.setTop (mkF m 271 #[.val (.long p1), .second, .val (.int p2), .val (.ref ad8), .val (.long x0), .second, .val (.int w101), .val (.long w102), .second, .val (.int w103), .unset, .unset] [])) _
          refine XT.iconstV X59.here hx rfl (0 : Int32) (hb hby at_271) rfl ?_
          show Steps p.tables e below (T59.setTop (mkF m 272 #[.val (.long p1), .second, .val (.int p2), .val (.ref ad8), .val (.long x0), .second, .val (.int w101), .val (.long w102), .second, .val (.int w103), .unset, .unset] [(.int (0 : Int32))])) _
          rw [show w104 = (0 : Int32) from by rw [qw104, if_neg c251_62, if_pos c264_63]] at k
          exact k
        · refine XS.ifNo X59.here hx rfl (hb hby at_264) rfl (XT.ll_gt_f c264_63) ?_
          show Steps p.tables e below (T59.setTop (mkF m 267 #[.val (.long p1), .second, .val (.int p2), .val (.ref ad8), .val (.long x0), .second, .val (.int w101), .val (.long w102), .second, .val (.int w103), .unset, .unset] [])) _
          refine XT.iconstV X59.here hx rfl (1 : Int32) (hb hby at_267) rfl ?_
          show Steps p.tables e below (T59.setTop (mkF m 268 #[.val (.long p1), .second, .val (.int p2), .val (.ref ad8), .val (.long x0), .second, .val (.int w101), .val (.long w102), .second, .val (.int w103), .unset, .unset] [(.int (1 : Int32))])) _
          refine XS.goto X59.here hx rfl (pc0 := 268) (pc' := 272) rfl (hb hby at_268) (by decide) (by decide) ?_
          show Steps p.tables e below (T59.setTop (mkF m 272 #[.val (.long p1), .second, .val (.int p2), .val (.ref ad8), .val (.long x0), .second, .val (.int w101), .val (.long w102), .second, .val (.int w103), .unset, .unset] [(.int (1 : Int32))])) _
          rw [show w104 = (1 : Int32) from by rw [qw104, if_neg c251_62, if_neg c264_63]] at k
          exact k
    refine OwnWp.step (U' := T59.setTop (mkF m 278 #[.val (.long p1), .second, .val (.int p2), .val (.ref ad8), .val (.long x0), .second, .val (.int w101), .val (.long w102), .second, .val (.int w103), .val (.int w104), .unset] [(.int (19 : Int32)), (.int w103)])) (fun t k => ?_) ?_
    · show Steps p.tables e below (T59.setTop (mkF m 272 #[.val (.long p1), .second, .val (.int p2), .val (.ref ad8), .val (.long x0), .second, .val (.int w101), .val (.long w102), .second, .val (.int w103), .unset, .unset] [(.int w104)])) _
      refine XS.istore X59.here hx rfl (hb hby at_272) rfl (l' := #[.val (.long p1), .second, .val (.int p2), .val (.ref ad8), .val (.long x0), .second, .val (.int w101), .val (.long w102), .second, .val (.int w103), .val (.int w104), .unset]) rfl ?_
      show Steps p.tables e below (T59.setTop (mkF m 274 #[.val (.long p1), .second, .val (.int p2), .val (.ref ad8), .val (.long x0), .second, .val (.int w101), .val (.long w102), .second, .val (.int w103), .val (.int w104), .unset] [])) _
      refine XS.iload X59.here hx rfl (hb hby at_274) rfl ?_
      show Steps p.tables e below (T59.setTop (mkF m 276 #[.val (.long p1), .second, .val (.int p2), .val (.ref ad8), .val (.long x0), .second, .val (.int w101), .val (.long w102), .second, .val (.int w103), .val (.int w104), .unset] [(.int w103)])) _
      refine XT.bipushV X59.here hx rfl (19 : Int32) (hb hby at_276) rfl ?_
      show Steps p.tables e below (T59.setTop (mkF m 278 #[.val (.long p1), .second, .val (.int p2), .val (.ref ad8), .val (.long x0), .second, .val (.int w101), .val (.long w102), .second, .val (.int w103), .val (.int w104), .unset] [(.int (19 : Int32)), (.int w103)])) _
      exact k
    obtain ⟨w105, qw105⟩ : ∃ z : Int32, z = (if w103 = (19 : Int32) then (1 : Int32) else (if (-(own_p w103.toInt)) < w102 then (1 : Int32) else (0 : Int32))) := ⟨_, rfl⟩
    refine OwnWp.step (U' := T59.setTop (mkF m 297 #[.val (.long p1), .second, .val (.int p2), .val (.ref ad8), .val (.long x0), .second, .val (.int w101), .val (.long w102), .second, .val (.int w103), .val (.int w104), .unset] [(.int w105)])) (fun t k => ?_) ?_
    · show Steps p.tables e below (T59.setTop (mkF m 278 #[.val (.long p1), .second, .val (.int p2), .val (.ref ad8), .val (.long x0), .second, .val (.int w101), .val (.long w102), .second, .val (.int w103), .val (.int w104), .unset] [(.int (19 : Int32)), (.int w103)])) _
      by_cases c278_64 : w103 = (19 : Int32)
      · refine XS.icmpYes X59.here hx rfl (pc0 := 278) (pc' := 292) rfl (hb hby at_278) rfl (XT.ii_eq_t c278_64) (by decide) (by decide) ?_
        show Steps p.tables e below (T59.setTop (mkF m 292 #[.val (.long p1), .second, .val (.int p2), .val (.ref ad8), .val (.long x0), .second, .val (.int w101), .val (.long w102), .second, .val (.int w103), .val (.int w104), .unset] [])) _
        refine XT.iconstV X59.here hx rfl (1 : Int32) (hb hby at_292) rfl ?_
        show Steps p.tables e below (T59.setTop (mkF m 293 #[.val (.long p1), .second, .val (.int p2), .val (.ref ad8), .val (.long x0), .second, .val (.int w101), .val (.long w102), .second, .val (.int w103), .val (.int w104), .unset] [(.int (1 : Int32))])) _
        refine XS.goto X59.here hx rfl (pc0 := 293) (pc' := 297) rfl (hb hby at_293) (by decide) (by decide) ?_
        show Steps p.tables e below (T59.setTop (mkF m 297 #[.val (.long p1), .second, .val (.int p2), .val (.ref ad8), .val (.long x0), .second, .val (.int w101), .val (.long w102), .second, .val (.int w103), .val (.int w104), .unset] [(.int (1 : Int32))])) _
        rw [show w105 = (1 : Int32) from by rw [qw105, if_pos c278_64]] at k
        exact k
      · refine XS.icmpNo X59.here hx rfl (hb hby at_278) rfl (XT.ii_eq_f c278_64) ?_
        show Steps p.tables e below (T59.setTop (mkF m 281 #[.val (.long p1), .second, .val (.int p2), .val (.ref ad8), .val (.long x0), .second, .val (.int w101), .val (.long w102), .second, .val (.int w103), .val (.int w104), .unset] [])) _
        refine XT.lload X59.here hx rfl (hb hby at_281) rfl ?_
        show Steps p.tables e below (T59.setTop (mkF m 283 #[.val (.long p1), .second, .val (.int p2), .val (.ref ad8), .val (.long x0), .second, .val (.int w101), .val (.long w102), .second, .val (.int w103), .val (.int w104), .unset] [(.long w102)])) _
        refine XS.aloadN X59.here hx rfl (hb hby at_283) rfl rfl ?_
        show Steps p.tables e below (T59.setTop (mkF m 284 #[.val (.long p1), .second, .val (.int p2), .val (.ref ad8), .val (.long x0), .second, .val (.int w101), .val (.long w102), .second, .val (.int w103), .val (.int w104), .unset] [(.ref ad8), (.long w102)])) _
        refine XS.iload X59.here hx rfl (hb hby at_284) rfl ?_
        show Steps p.tables e below (T59.setTop (mkF m 286 #[.val (.long p1), .second, .val (.int p2), .val (.ref ad8), .val (.long x0), .second, .val (.int w101), .val (.long w102), .second, .val (.int w103), .val (.int w104), .unset] [(.int w103), (.ref ad8), (.long w102)])) _
        refine OwnA.ldJ X59 hx hZ eh59 Fp (own_ix2 w103 dd hv hd (by assumption)).1 (own_ix2 w103 dd hv hd (by assumption)).2 rfl rfl (hb hby at_286) ?_
        show Steps p.tables e below (T59.setTop (mkF m 287 #[.val (.long p1), .second, .val (.int p2), .val (.ref ad8), .val (.long x0), .second, .val (.int w101), .val (.long w102), .second, .val (.int w103), .val (.int w104), .unset] [(.long (own_p w103.toInt)), (.long w102)])) _
        refine XT.lneg X59.here hx rfl (hb hby at_287) rfl ?_
        show Steps p.tables e below (T59.setTop (mkF m 288 #[.val (.long p1), .second, .val (.int p2), .val (.ref ad8), .val (.long x0), .second, .val (.int w101), .val (.long w102), .second, .val (.int w103), .val (.int w104), .unset] [(.long (-(own_p w103.toInt))), (.long w102)])) _
        refine XT.lcmp X59.here hx rfl (hb hby at_288) rfl ?_
        show Steps p.tables e below (T59.setTop (mkF m 289 #[.val (.long p1), .second, .val (.int p2), .val (.ref ad8), .val (.long x0), .second, .val (.int w101), .val (.long w102), .second, .val (.int w103), .val (.int w104), .unset] [(.int (XT.cmpL w102 (-(own_p w103.toInt))))])) _
        by_cases c289_65 : (-(own_p w103.toInt)) < w102
        · refine XS.ifNo X59.here hx rfl (hb hby at_289) rfl (XT.ll_le_f c289_65) ?_
          show Steps p.tables e below (T59.setTop (mkF m 292 #[.val (.long p1), .second, .val (.int p2), .val (.ref ad8), .val (.long x0), .second, .val (.int w101), .val (.long w102), .second, .val (.int w103), .val (.int w104), .unset] [])) _
          refine XT.iconstV X59.here hx rfl (1 : Int32) (hb hby at_292) rfl ?_
          show Steps p.tables e below (T59.setTop (mkF m 293 #[.val (.long p1), .second, .val (.int p2), .val (.ref ad8), .val (.long x0), .second, .val (.int w101), .val (.long w102), .second, .val (.int w103), .val (.int w104), .unset] [(.int (1 : Int32))])) _
          refine XS.goto X59.here hx rfl (pc0 := 293) (pc' := 297) rfl (hb hby at_293) (by decide) (by decide) ?_
          show Steps p.tables e below (T59.setTop (mkF m 297 #[.val (.long p1), .second, .val (.int p2), .val (.ref ad8), .val (.long x0), .second, .val (.int w101), .val (.long w102), .second, .val (.int w103), .val (.int w104), .unset] [(.int (1 : Int32))])) _
          rw [show w105 = (1 : Int32) from by rw [qw105, if_neg c278_64, if_pos c289_65]] at k
          exact k
        · refine XS.ifYes X59.here hx rfl (pc0 := 289) (pc' := 296) rfl (hb hby at_289) rfl (XT.ll_le_t c289_65) (by decide) (by decide) ?_
          show Steps p.tables e below (T59.setTop (mkF m 296 #[.val (.long p1), .second, .val (.int p2), .val (.ref ad8), .val (.long x0), .second, .val (.int w101), .val (.long w102), .second, .val (.int w103), .val (.int w104), .unset] [])) _
          refine XT.iconstV X59.here hx rfl (0 : Int32) (hb hby at_296) rfl ?_
          show Steps p.tables e below (T59.setTop (mkF m 297 #[.val (.long p1), .second, .val (.int p2), .val (.ref ad8), .val (.long x0), .second, .val (.int w101), .val (.long w102), .second, .val (.int w103), .val (.int w104), .unset] [(.int (0 : Int32))])) _
          rw [show w105 = (0 : Int32) from by rw [qw105, if_neg c278_64, if_neg c289_65]] at k
          exact k
    refine OwnWp.step (U' := T59.setTop (mkF m 301 #[.val (.long p1), .second, .val (.int p2), .val (.ref ad8), .val (.long x0), .second, .val (.int w101), .val (.long w102), .second, .val (.int w103), .val (.int w104), .val (.int w105)] [(.int w104)])) (fun t k => ?_) ?_
    · show Steps p.tables e below (T59.setTop (mkF m 297 #[.val (.long p1), .second, .val (.int p2), .val (.ref ad8), .val (.long x0), .second, .val (.int w101), .val (.long w102), .second, .val (.int w103), .val (.int w104), .unset] [(.int w105)])) _
      refine XS.istore X59.here hx rfl (hb hby at_297) rfl (l' := #[.val (.long p1), .second, .val (.int p2), .val (.ref ad8), .val (.long x0), .second, .val (.int w101), .val (.long w102), .second, .val (.int w103), .val (.int w104), .val (.int w105)]) rfl ?_
      show Steps p.tables e below (T59.setTop (mkF m 299 #[.val (.long p1), .second, .val (.int p2), .val (.ref ad8), .val (.long x0), .second, .val (.int w101), .val (.long w102), .second, .val (.int w103), .val (.int w104), .val (.int w105)] [])) _
      refine XS.iload X59.here hx rfl (hb hby at_299) rfl ?_
      show Steps p.tables e below (T59.setTop (mkF m 301 #[.val (.long p1), .second, .val (.int p2), .val (.ref ad8), .val (.long x0), .second, .val (.int w101), .val (.long w102), .second, .val (.int w103), .val (.int w104), .val (.int w105)] [(.int w104)])) _
      exact k
    obtain ⟨w106, qw106⟩ : ∃ z : Int32, z = (if w104 = (0 : Int32) then (0 : Int32) else (if w105 = (0 : Int32) then (0 : Int32) else (1 : Int32))) := ⟨_, rfl⟩
    refine OwnWp.step (U' := T59.setTop (mkF m 314 #[.val (.long p1), .second, .val (.int p2), .val (.ref ad8), .val (.long x0), .second, .val (.int w101), .val (.long w102), .second, .val (.int w103), .val (.int w104), .val (.int w105)] [(.int w106)])) (fun t k => ?_) ?_
    · show Steps p.tables e below (T59.setTop (mkF m 301 #[.val (.long p1), .second, .val (.int p2), .val (.ref ad8), .val (.long x0), .second, .val (.int w101), .val (.long w102), .second, .val (.int w103), .val (.int w104), .val (.int w105)] [(.int w104)])) _
      by_cases c301_66 : w104 = (0 : Int32)
      · refine XS.ifYes X59.here hx rfl (pc0 := 301) (pc' := 313) rfl (hb hby at_301) rfl (XT.i0_eq_t c301_66) (by decide) (by decide) ?_
        show Steps p.tables e below (T59.setTop (mkF m 313 #[.val (.long p1), .second, .val (.int p2), .val (.ref ad8), .val (.long x0), .second, .val (.int w101), .val (.long w102), .second, .val (.int w103), .val (.int w104), .val (.int w105)] [])) _
        refine XT.iconstV X59.here hx rfl (0 : Int32) (hb hby at_313) rfl ?_
        show Steps p.tables e below (T59.setTop (mkF m 314 #[.val (.long p1), .second, .val (.int p2), .val (.ref ad8), .val (.long x0), .second, .val (.int w101), .val (.long w102), .second, .val (.int w103), .val (.int w104), .val (.int w105)] [(.int (0 : Int32))])) _
        rw [show w106 = (0 : Int32) from by rw [qw106, if_pos c301_66]] at k
        exact k
      · refine XS.ifNo X59.here hx rfl (hb hby at_301) rfl (XT.i0_eq_f c301_66) ?_
        show Steps p.tables e below (T59.setTop (mkF m 304 #[.val (.long p1), .second, .val (.int p2), .val (.ref ad8), .val (.long x0), .second, .val (.int w101), .val (.long w102), .second, .val (.int w103), .val (.int w104), .val (.int w105)] [])) _
        refine XS.iload X59.here hx rfl (hb hby at_304) rfl ?_
        show Steps p.tables e below (T59.setTop (mkF m 306 #[.val (.long p1), .second, .val (.int p2), .val (.ref ad8), .val (.long x0), .second, .val (.int w101), .val (.long w102), .second, .val (.int w103), .val (.int w104), .val (.int w105)] [(.int w105)])) _
        by_cases c306_67 : w105 = (0 : Int32)
        · refine XS.ifYes X59.here hx rfl (pc0 := 306) (pc' := 313) rfl (hb hby at_306) rfl (XT.i0_eq_t c306_67) (by decide) (by decide) ?_
          show Steps p.tables e below (T59.setTop (mkF m 313 #[.val (.long p1), .second, .val (.int p2), .val (.ref ad8), .val (.long x0), .second, .val (.int w101), .val (.long w102), .second, .val (.int w103), .val (.int w104), .val (.int w105)] [])) _
          refine XT.iconstV X59.here hx rfl (0 : Int32) (hb hby at_313) rfl ?_
          show Steps p.tables e below (T59.setTop (mkF m 314 #[.val (.long p1), .second, .val (.int p2), .val (.ref ad8), .val (.long x0), .second, .val (.int w101), .val (.long w102), .second, .val (.int w103), .val (.int w104), .val (.int w105)] [(.int (0 : Int32))])) _
          rw [show w106 = (0 : Int32) from by rw [qw106, if_neg c301_66, if_pos c306_67]] at k
          exact k
        · refine XS.ifNo X59.here hx rfl (hb hby at_306) rfl (XT.i0_eq_f c306_67) ?_
          show Steps p.tables e below (T59.setTop (mkF m 309 #[.val (.long p1), .second, .val (.int p2), .val (.ref ad8), .val (.long x0), .second, .val (.int w101), .val (.long w102), .second, .val (.int w103), .val (.int w104), .val (.int w105)] [])) _
          refine XT.iconstV X59.here hx rfl (1 : Int32) (hb hby at_309) rfl ?_
          show Steps p.tables e below (T59.setTop (mkF m 310 #[.val (.long p1), .second, .val (.int p2), .val (.ref ad8), .val (.long x0), .second, .val (.int w101), .val (.long w102), .second, .val (.int w103), .val (.int w104), .val (.int w105)] [(.int (1 : Int32))])) _
          refine XS.goto X59.here hx rfl (pc0 := 310) (pc' := 314) rfl (hb hby at_310) (by decide) (by decide) ?_
          show Steps p.tables e below (T59.setTop (mkF m 314 #[.val (.long p1), .second, .val (.int p2), .val (.ref ad8), .val (.long x0), .second, .val (.int w101), .val (.long w102), .second, .val (.int w103), .val (.int w104), .val (.int w105)] [(.int (1 : Int32))])) _
          rw [show w106 = (1 : Int32) from by rw [qw106, if_neg c301_66, if_neg c306_67]] at k
          exact k
    have hfin := own_law x0 dd hd w101 qw101 w102 qw102 w103 qw103 w104 qw104 w105 qw105 w106 qw106
    refine OwnWp.retZ X59 hx hlk Bd.returns (hb hby at_314) (by decide) (by decide) (Or.inr hfin) ?_
    exact ⟨by rw [hfin], N59⟩
set_option maxRecDepth 65536 in
set_option maxHeartbeats 40000000 in
theorem comes_1 {Post : Tables → Env → Array Value → State → Outcome → State → Prop} (hpost : ∀ tb e args s v u, (limb_1_1.after args s (.returned v) u = true ∧ limb_1_2.after args s (.returned v) u = true ∧ True) → FrameEnd s (.returned v) u (Jvm.fieldLocs frame_1_writes args s ++ Jvm.arrayLocs frame_1_arrays args s ++ Jvm.staticLocs frame_1_statics s) 16 128 → Post tb e args s (.returned v) u) :
    ArmFor flags0 classFile x code maxLocals ret World_1 tables_1 room_1 Calls_1 rest_1 Pre_1 Post := by
  intro l hfl _ _ p e ha hc hk s m args below hf hA hF happ hP
  obtain ⟨hcalls, hrest, hpre⟩ := hP
  obtain ⟨-, -, -, hnamed, -, -, -, hat⟩ := (Spec.applies_iff hf).mp happ
  obtain ⟨hg, hn⟩ := and_e (Cond.before_iff.mp (show (Jvm.Cond.and given_1 narrow_1).before args s = true from hpre))
  obtain ⟨hcount, g0⟩ := and_e hg
  obtain ⟨w0, w1, rfl⟩ : ∃ w0 w1 : Value, args = #[w0, w1] := by
    have hs : args.size = 2 := by simpa [Cond.value, given_1] using hcount
    obtain ⟨L⟩ := args
    match L, hs with
    | [w0, w1], _ => exact ⟨w0, w1, rfl⟩
  have hw := fun d (hd : d ∈ tables_1) => atoms_spec (ws := Jvm.Cond.code x code maxLocals ret :: tables_1) hat d (List.mem_cons_of_mem _ hd)
  obtain ⟨u0, g1⟩ := and_e g0
  obtain ⟨i0, e0⟩ := isL_v u0
  obtain rfl : w0 = (.long i0) := Option.some.inj e0
  obtain ⟨i1, e1⟩ := is_v g1
  obtain rfl : w1 = (.int i1) := Option.some.inj e1
  obtain ⟨n, o, h1, h2, h3, _, L, rfl, ⟨rfl, N⟩, hq⟩ := rm0 l s _ hw tables_1 i0 i1 s.heap s.heap.size (Nat.le_refl _) p e ha hc hk s m _ below hf ((Spec.applies_iff_loose hf).mp happ).1 ⟨rfl, State.Warmed39.refl s, rfl⟩ trivial
  refine ⟨n, _, h1, h2, h3, hpost _ _ _ _ _ _ ⟨Cond.after_iff.mpr rfl, Cond.after_iff.mpr (eq_i res_at (Term.int_eval (1)) rfl), trivial⟩ ⟨hq.1, hq.2.1, (hq.2.2.sift fun y hy => Or.inr (N y hy)).mono (by decide) (by decide)⟩⟩
theorem main_1_1 : Claimed_1_1 := comes_1 fun _ _ _ _ _ _ h hF => ⟨h.1, hF⟩
theorem main_1_2 : Claimed_1_2 := comes_1 fun _ _ _ _ _ _ h hF => ⟨h.2.1, hF⟩
end Jvm.Pilot.@@N@@
namespace Jvm.Pilot.@@N@@
open Jvm Jvm.ClassFile Sem Op Lib Jvm.Free Jvm.Stand Jvm.Pilot.@@N@@.Jvm.D
/-! MADE BY PROGRAM (witnessworld.py) out of the Statement's table words and the real class files: 11 classes; the members and pool entries that the words name. The judged class is class 1, her method 1. -/
namespace start1
open Jvm.ClassFile
def u (s : String) : CpInfo := .utf8 (stringToUtf16 s)
/-- a pool by its gaps: so many unusable entries, then the entry; so many at the end -/
def gap : Nat → List CpInfo → List CpInfo
  | 0, r => r
  | n + 1, r => .unusable :: gap n r
def poolList (es : List (Nat × CpInfo)) (last : Nat) : List CpInfo := es.foldr (fun e r => gap e.1 (e.2 :: r)) (gap last [])
def pool (es : List (Nat × CpInfo)) (last : Nat) : Array CpInfo := ⟨poolList es last⟩
def fileOf (pool : Array CpInfo) (this : Nat) (attrs : Array Attribute := #[]) (ms : Array MethodInfo := #[]) (fl : Nat := 33) (sup : Nat := 0) (ifs : Array Nat := #[]) (fds : Array FieldInfo := #[]) : ClassFile where
  minorVersion := 0
  majorVersion := 65
  constantPool := pool
  accessFlags := fl
  thisClass := this
  superClass := sup
  interfaces := ifs
  fields := fds
  methods := ms
  attributes := attrs
def plain (name : String) (sup : Option ClassId) : Class where
  name := name
  kind := .ordinary
  loader := none
  accessFlags := 33
  super := sup
  interfaces := #[]
  cf := none
  fields := #[]
  methods := #[]
  instanceTypes := #[]
  staticTypes := #[]
  resolved := #[]
  callSites := []
  init := .initialized
  statics := none
  mirror := none

def pool0 : Array CpInfo := pool [(5, u "<init>"), (0, u "()V"), (1, .class_ 10), (1, u "java/lang/Object")] 113

def k0m0 : Method := { name := "<init>", desc := "()V", sig := { parameters := [], returnType := none }, accessFlags := 1, code := none }
/-- java/lang/Object -/
def k0 : Class := { plain "java/lang/Object" none with
  accessFlags := 33
  interfaces := #[]
  cf := some (fileOf pool0 8 #[] #[{ accessFlags := 1, nameIndex := 5, descriptorIndex := 6, attributes := #[] }] 33 0 #[] #[])
  fields := #[]
  methods := #[k0m0]
  instanceTypes := #[]
  staticTypes := #[]
  resolved := Array.replicate 124 none
  statics := none }

def pool1 : Array CpInfo := pool [(2, .class_ 4), (1, u "java/lang/Object"), (0, u "<init>"), (0, u "()V"), (0, .long 10), (1, .long 100), (1, .long 1000), (1, .long 10000), (1, .long 100000), (1, .long 1000000), (1, .long 10000000), (1, .long 100000000), (1, .long 1000000000), (1, .long 10000000000), (1, .long 100000000000), (1, .long 1000000000000), (1, .long 10000000000000), (1, .long 100000000000000), (1, .long 1000000000000000), (1, .long 10000000000000000), (1, .long 100000000000000000), (1, .long 1000000000000000000), (1, .long 3), (1, .methodref 46 47), (0, .class_ 48), (0, .nameAndType 49 50), (0, u "com/example/utu/utu/base/WholeNumbers"), (0, u "length"), (0, u "(J)I"), (0, .class_ 52), (0, u "com/example/utu/utu/base/WholeNumbersLengthPinLaw"), (2, u "law"), (0, u "(JI)Z")] 5

def k1m0 : Method := { name := "<init>", desc := "()V", sig := { parameters := [], returnType := none }, accessFlags := 1, code := none }
def k1c1 : Code := { maxStack := 6, maxLocals := 12, code := code, exceptionTable := #[], attributes := #[] }
def k1m1 : Method := { name := "law", desc := "(JI)Z", sig := { parameters := [.long, .int], returnType := some .boolean }, accessFlags := 9, code := some k1c1 }
/-- com/example/utu/utu/base/WholeNumbersLengthPinLaw -/
def k1 : Class := { plain "com/example/utu/utu/base/WholeNumbersLengthPinLaw" (some 0) with
  accessFlags := 49
  interfaces := #[]
  cf := some (fileOf pool1 51 #[] #[{ accessFlags := 1, nameIndex := 5, descriptorIndex := 6, attributes := #[] }, { accessFlags := 9, nameIndex := 55, descriptorIndex := 56, attributes := #[] }] 49 2 #[] #[])
  fields := #[]
  methods := #[k1m0, k1m1]
  instanceTypes := #[]
  staticTypes := #[]
  resolved := Array.replicate 62 none
  statics := none }

def pool2 : Array CpInfo := pool [(2, .class_ 4), (1, u "java/lang/Object"), (0, u "<init>"), (0, u "()V"), (15, .class_ 24), (1, u "com/example/utu/utu/base/WholeNumbers"), (25, .long 18446744073709551606), (1, .long 10), (7, u "DIGIT_PAIRS"), (0, u "[B"), (0, u "TOO_LARGE"), (0, u "J"), (10, u "length"), (0, u "(J)I")] 5

def k2m0 : Method := { name := "<init>", desc := "()V", sig := { parameters := [], returnType := none }, accessFlags := 2, code := none }
def k2c1 : Code := { maxStack := 4, maxLocals := 7, code := prog_55_method_5_code, exceptionTable := #[], attributes := #[] }
def k2m1 : Method := { name := "length", desc := "(J)I", sig := { parameters := [.long], returnType := some .int }, accessFlags := 9, code := some k2c1 }
/-- com/example/utu/utu/base/WholeNumbers -/
def k2 : Class := { plain "com/example/utu/utu/base/WholeNumbers" (some 0) with
  accessFlags := 49
  interfaces := #[]
  cf := some (fileOf pool2 22 #[] #[{ accessFlags := 2, nameIndex := 5, descriptorIndex := 6, attributes := #[] }, { accessFlags := 9, nameIndex := 74, descriptorIndex := 75, attributes := #[] }] 49 2 #[] #[{ accessFlags := 26, nameIndex := 62, descriptorIndex := 63, attributes := #[] }, { accessFlags := 26, nameIndex := 60, descriptorIndex := 61, attributes := #[] }])
  fields := #[{ name := "TOO_LARGE", type := .long, accessFlags := 26, slot := 0, constantValue := 0 }, { name := "DIGIT_PAIRS", type := (.array .byte), accessFlags := 26, slot := 1, constantValue := 0 }]
  methods := #[k2m0, k2m1]
  instanceTypes := #[]
  staticTypes := #[.long, (.array .byte)]
  resolved := Array.replicate 81 none
  statics := none }

def pool3 : Array CpInfo := pool [(1, u "java/lang/Cloneable"), (0, .class_ 1), (0, u "java/lang/Object"), (0, .class_ 3)] 3

/-- java/lang/Cloneable -/
def k3 : Class := { plain "java/lang/Cloneable" (some 0) with
  accessFlags := 1537
  interfaces := #[]
  cf := some (fileOf pool3 2 #[] #[] 1537 4 #[] #[])
  fields := #[]
  methods := #[]
  instanceTypes := #[]
  staticTypes := #[]
  resolved := Array.replicate 8 none
  statics := none }

def pool4 : Array CpInfo := pool [(1, u "java/io/Serializable"), (0, .class_ 1), (0, u "java/lang/Object"), (0, .class_ 3)] 3

/-- java/io/Serializable -/
def k4 : Class := { plain "java/io/Serializable" (some 0) with
  accessFlags := 1537
  interfaces := #[]
  cf := some (fileOf pool4 2 #[] #[] 1537 4 #[] #[])
  fields := #[]
  methods := #[]
  instanceTypes := #[]
  staticTypes := #[]
  resolved := Array.replicate 8 none
  statics := none }

/-- the primitive byte -/
def k5 : Class := { plain "byte" none with kind := .primitive 'B', accessFlags := 0x411 }
/-- [B -/
def k6 : Class := { plain "[B" (some 0) with kind := .array 5 .byte, interfaces := #[3, 4], accessFlags := 1041 }

/-- the primitive int -/
def k7 : Class := { plain "int" none with kind := .primitive 'I', accessFlags := 0x411 }
/-- [I -/
def k8 : Class := { plain "[I" (some 0) with kind := .array 7 .int, interfaces := #[3, 4], accessFlags := 1041 }

/-- the primitive long -/
def k9 : Class := { plain "long" none with kind := .primitive 'J', accessFlags := 0x411 }
/-- [J -/
def k10 : Class := { plain "[J" (some 0) with kind := .array 9 .long, interfaces := #[3, 4], accessFlags := 1041 }

def heap : Heap := #[]
def classes : Array Class := #[k0, k1, k2, k3, k4, k5, k6, k7, k8, k9, k10]
def interned : List (Array UInt16 × Addr) := []
def slotsUsed : Nat := 0
def theMethod : MethodId := ⟨1, 1⟩
def args0 : Array Value := #[.long 5, .int 3]
def aboutOver (below : List Frame) : State where
  vm := { classes := classes, interned := interned.toArray }
  heap := heap
  slotsUsed := slotsUsed
  threads := #[{ frames := .invoking theMethod args0 :: below }]
def below0 : List Frame := [.native { method := ⟨0, 0⟩, args := #[] }]
def about1 : State := aboutOver below0
def p0 : Program := .bare "" "" ""
def e0 : Env := launch0.env 0 0 0
theorem w_frames : about1.frames = Frame.invoking theMethod args0 :: below0 := rfl
set_option maxRecDepth 65536 in
theorem w_args : argsFit about1.vm theMethod args0 = true := by decide +kernel
set_option maxRecDepth 65536 in
theorem w_heap : heapFits about1 = true := by decide +kernel
set_option maxRecDepth 65536 in
theorem w_runnable : about1.curStatus? = some .runnable := by decide +kernel
set_option maxRecDepth 65536 in
theorem w_alone : about1.alone = true := by decide +kernel
set_option maxRecDepth 65536 in
theorem w_named : about1.methodNamed? x = some theMethod := by decide +kernel
set_option maxRecDepth 65536 in
theorem w_hears : about1.hears theMethod below0 = true := by decide +kernel
set_option maxRecDepth 65536 in
theorem w_ripe : about1.ripe theMethod args0 below0 = true := by decide +kernel
theorem w_running : about1.status = .running := rfl
set_option maxRecDepth 65536 in
theorem w_room : about1.hasRoom e0.platform room_1 = true :=
  launch0.hasRoom_least _ room_1 (by decide +kernel) (by decide +kernel) (by decide +kernel) (by decide +kernel) (by decide +kernel) (by decide +kernel)
theorem allAtoms_all (ts : List Jvm.Cond) (a : Array Jvm.Value) (st : Jvm.State) : (allAtoms ts).before a st = ts.all (fun c => c.before a st) := by
  induction ts with
  | nil => rfl
  | cons c t ih =>
    show (Jvm.Cond.and c (allAtoms t)).before a st = _
    rw [Jvm.Cond.before_and, ih, List.all_cons]
def words1 : List Jvm.Cond := Jvm.Cond.code x code maxLocals ret :: tables_1
/-- a 'code' word, met by the world's own term for the bytes: nothing is compared byte by byte -/
theorem code_word {y : MethodName} {bytes : ByteArray} {mx : Nat} {rt : Option FieldType} {a : Array Value} {s : State} {m : MethodId} {meth : Method} {c : Code} (h1 : s.methodNamed? y = some m) (h2 : s.vm.method? m = some meth) (h3 : meth.code = some c) (h4 : c.code = bytes)
    (h5 : (c.maxLocals == mx && c.exceptionTable.isEmpty && decide (c.maxStack ≤ mostOperands) && decide (meth.sig.returnType = rt) && !meth.locks && decide (parseMethodDescriptor y.desc = some meth.sig)) = true) : (Jvm.Cond.code y bytes mx rt).before a s = true := by
  simp only [Bool.and_eq_true, beq_iff_eq, Bool.not_eq_true', decide_eq_true_eq] at h5
  obtain ⟨⟨⟨⟨⟨g1, g2⟩, g3⟩, g4⟩, g5⟩, g6⟩ := h5
  simp [Cond.before, Cond.holds, Cond.value, h1, h2, h3, h4, g1, g2, g3, g4, g5, g6]
def isCode : Jvm.Cond → Bool
  | .code _ _ _ _ => true
  | _ => false
theorem all_split {L : List Jvm.Cond} {P : Jvm.Cond → Bool} (h1 : L.all (fun c => isCode c || P c) = true) (h2 : ∀ c ∈ L.filter isCode, P c = true) : L.all P = true := by
  refine List.all_eq_true.mpr fun c hc => ?_
  have h := List.all_eq_true.mp h1 c hc
  rcases Bool.eq_false_or_eq_true (isCode c) with hi | hi
  · exact h2 c (List.mem_filter.mpr ⟨hc, hi⟩)
  · simpa [hi] using h
set_option maxRecDepth 65536 in
theorem w_c0 : (Jvm.Cond.code x code maxLocals ret).before args0 about1 = true := code_word (m := ⟨1, 1⟩) (meth := k1m1) (c := k1c1) (by decide +kernel) rfl rfl rfl (by decide +kernel)
set_option maxRecDepth 65536 in
theorem w_c1 : (Jvm.Cond.code ({ cls := "com/example/utu/utu/base/WholeNumbers", name := "length", desc := "(J)I" } : Jvm.MethodName) prog_55_method_5_code (7 : Nat) (Option.some Jvm.ClassFile.FieldType.int)).before args0 about1 = true := code_word (m := ⟨2, 1⟩) (meth := k2m1) (c := k2c1) (by decide +kernel) rfl rfl rfl (by decide +kernel)
def codes1 : List Jvm.Cond := [Jvm.Cond.code x code maxLocals ret, Jvm.Cond.code ({ cls := "com/example/utu/utu/base/WholeNumbers", name := "length", desc := "(J)I" } : Jvm.MethodName) prog_55_method_5_code (7 : Nat) (Option.some Jvm.ClassFile.FieldType.int)]
set_option maxRecDepth 65536 in
theorem codes_eq : words1.filter isCode = codes1 := rfl
theorem w_codes : ∀ c ∈ words1.filter isCode, c.before args0 about1 = true := by
  rw [codes_eq]
  intro c hc
  simp only [codes1, List.mem_cons, List.not_mem_nil, or_false] at hc
  rcases hc with rfl | rfl
  · exact w_c0
  · exact w_c1
set_option maxRecDepth 65536 in
theorem w_t1 : (words1.take 24).all (fun c => isCode c || c.before args0 about1) = true := by decide +kernel
set_option maxRecDepth 65536 in
theorem w_t2 : (words1.drop 24).all (fun c => isCode c || c.before args0 about1) = true := by decide +kernel
theorem w_tables : (allAtoms (Jvm.Cond.code x code maxLocals ret :: tables_1)).before args0 about1 = true := by
  rw [allAtoms_all]
  show words1.all (fun c => c.before args0 about1) = true
  refine all_split ?_ w_codes
  rw [← List.take_append_drop 24 words1, List.all_append, w_t1, w_t2]
  rfl
set_option maxRecDepth 65536 in
theorem w_case : (Jvm.Cond.and given_1 narrow_1).before args0 about1 = true := by decide +kernel
theorem w_applies : (headSpec (Jvm.Cond.code x code maxLocals ret :: tables_1) room_1).applies x e0.platform about1 = true :=
  (Spec.applies_iff w_frames).mpr ⟨w_running, w_runnable, w_alone, w_named, w_hears, w_ripe, w_room, w_tables⟩
theorem atStart : AtStart classFile x code maxLocals ret World_1 tables_1 room_1 Calls_1 rest_1 Pre_1 launch0 p0 e0 about1 theMethod args0 below0 :=
  ⟨lists_1, trivial, launch0.admits_env _ _ _, launch0.least_env, fairChoices_fair.cas, fairChoices_fair.clock, w_frames, w_args, w_heap, w_applies, trivial, trivial, w_case⟩
end start1
theorem witness_1 : WitnessClaimed_1 := ⟨start1.p0, start1.e0, start1.about1, start1.theMethod, start1.args0, start1.below0, start1.atStart⟩
end Jvm.Pilot.@@N@@
