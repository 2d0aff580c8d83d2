import JvmDerived
import JvmDerived.Pilot.@@N@@Statement
import JvmDerived.Pilot.@@N@@Code
set_option linter.unusedVariables false
set_option linter.unusedSimpArgs false
set_option maxHeartbeats 2000000
namespace Jvm.Pilot.@@N@@
open Jvm Jvm.ClassFile Sem Op Lib Jvm.Free Jvm.Stand Jvm.LawKit Jvm.RoadKit Bundle Jvm.Pilot.@@N@@.Jvm.D
section OwnKit
variable {p : Program} {l : Launch} {e : Env} {R : Room} {s : State} {m : MethodId} {args : Array Value} {below : List Frame} {meth : Method} {c : Code} {T : State} {locs : List Loc} {cells slots : Nat} {Z : State} {h h' : Heap} {a b : Addr}
def OwnWp (p : Program) (e : Env) (below : List Frame) (s : State) (C S : Nat) (Q : Option Value → Heap → List Loc → Prop) (U : State) : Prop :=
  ∃ s₂ o, Steps p.tables e below U s₂ ∧ s₂.status = .running ∧ Ended s₂ below o ∧ ∃ v L, o = .returned v ∧ Q v s₂.heap L ∧ FrameEnd s o s₂ L C S
variable {C S : Nat} {Q : Option Value → Heap → List Loc → Prop}
theorem OwnWp.step {U U' : State} (hs : ∀ t, Steps p.tables e below U' t → Steps p.tables e below U t) (k : OwnWp p e below s C S Q U') : OwnWp p e below s C S Q U := by
  obtain ⟨s2, o, h1, r⟩ := k
  exact ⟨s2, o, hs _ h1, r⟩
theorem OwnWp.go {U U' : State} (hs : Steps p.tables e below U U') (k : OwnWp p e below s C S Q U') : OwnWp p e below s C S Q U := k.step fun _ q => hs.trans q
theorem OwnWp.cast {g g' : JFrame} (q : g = g') (k : OwnWp p e below s C S Q (T.setTop g')) : OwnWp p e below s C S Q (T.setTop g) := q ▸ k
theorem OwnWp.retI (X : Stand p l e R s m args below meth c T locs cells slots) (hx : p.tables.exec = Jvm.exec) (hlk : meth.locks = false) (hret : meth.sig.returnType = some .int) {pc : Nat} {Ls : Array Slot} {z : Int32} {rest : List Value} (hd : decode c.code pc = .ok (.ireturn, 1)) (hC : cells ≤ C) (hS : slots ≤ S) (hQ : Q (some (.int z)) T.heap locs) :
    OwnWp p e below s C S Q (T.setTop (mkF m pc Ls (.int z :: rest))) := by
  obtain ⟨fs, hr, hrun, hended, hW, hsame⟩ := X.leave (v := some (.int z)) (fun h => by rw [hret] at h; cases h) hlk
  exact ⟨_, _, retOut X hx hret rfl (Or.inl ⟨rfl, Or.inl rfl, z, rfl⟩) hd hr, hrun, hended, _, _, rfl, hQ, ⟨_, rfl⟩, hW, hsame.mono hC hS⟩
theorem OwnWp.retJ (X : Stand p l e R s m args below meth c T locs cells slots) (hx : p.tables.exec = Jvm.exec) (hlk : meth.locks = false) (hret : meth.sig.returnType = some .long) {pc : Nat} {Ls : Array Slot} {z : Int64} {rest : List Value} (hd : decode c.code pc = .ok (.lreturn, 1)) (hC : cells ≤ C) (hS : slots ≤ S) (hQ : Q (some (.long z)) T.heap locs) :
    OwnWp p e below s C S Q (T.setTop (mkF m pc Ls (.long z :: rest))) := by
  obtain ⟨fs, hr, hrun, hended, hW, hsame⟩ := X.leave (v := some (.long z)) (fun h => by rw [hret] at h; cases h) hlk
  exact ⟨_, _, retOut X hx hret rfl (Or.inr (Or.inl ⟨rfl, rfl, z, rfl⟩)) hd hr, hrun, hended, _, _, rfl, hQ, ⟨_, rfl⟩, hW, hsame.mono hC hS⟩
theorem OwnWp.retA (X : Stand p l e R s m args below meth c T locs cells slots) (hx : p.tables.exec = Jvm.exec) (hlk : meth.locks = false) {t : FieldType} (hret : meth.sig.returnType = some t) (ht : t.isReference = true) {pc : Nat} {Ls : Array Slot} {z : Addr} {rest : List Value} (hn : narrow t (.ref z) = .ref z) (hd : decode c.code pc = .ok (.areturn, 1)) (hC : cells ≤ C) (hS : slots ≤ S) (hQ : Q (some (.ref z)) T.heap locs) :
    OwnWp p e below s C S Q (T.setTop (mkF m pc Ls (.ref z :: rest))) := by
  obtain ⟨fs, hr, hrun, hended, hW, hsame⟩ := X.leave (v := some (.ref z)) (fun h => by rw [hret] at h; cases h) hlk
  exact ⟨_, _, retOut X hx hret hn (Or.inr (Or.inr (Or.inr (Or.inr ⟨rfl, ht, rfl⟩)))) hd hr, hrun, hended, _, _, rfl, hQ, ⟨_, rfl⟩, hW, hsame.mono hC hS⟩
theorem OwnWp.retZ (X : Stand p l e R s m args below meth c T locs cells slots) (hx : p.tables.exec = Jvm.exec) (hlk : meth.locks = false) (hret : meth.sig.returnType = some .boolean) {pc : Nat} {Ls : Array Slot} {z : Int32} {rest : List Value} (hd : decode c.code pc = .ok (.ireturn, 1)) (hC : cells ≤ C) (hS : slots ≤ S) (hz : z = 0 ∨ z = 1) (hQ : Q (some (.int z)) T.heap locs) :
    OwnWp p e below s C S Q (T.setTop (mkF m pc Ls (.int z :: rest))) := by
  have hn : nar .boolean z = z := by rcases hz with rfl | rfl <;> rfl
  obtain ⟨fs, hr, hrun, hended, hW, hsame⟩ := X.leave (v := some (.int (nar .boolean z))) (fun h => by rw [hret] at h; cases h) hlk
  exact ⟨_, _, retN X hx hret (Or.inl rfl) hd hr, hrun, hended, _, _, rfl, by rw [hn]; exact hQ, ⟨_, rfl⟩, hW, hsame.mono hC hS⟩
theorem OwnWp.retV (X : Stand p l e R s m args below meth c T locs cells slots) (hx : p.tables.exec = Jvm.exec) (hlk : meth.locks = false) (hret : meth.sig.returnType = none) {pc : Nat} {Ls : Array Slot} (hd : decode c.code pc = .ok (.return_, 1)) (hC : cells ≤ C) (hS : slots ≤ S) (hQ : Q none T.heap locs) :
    OwnWp p e below s C S Q (T.setTop (mkF m pc Ls [])) := by
  obtain ⟨fs, hr, hrun, hended, hW, hsame⟩ := X.leave (v := none) (fun _ => rfl) hlk
  exact ⟨_, _, X.returnOut hx hret hd hr, hrun, hended, _, _, rfl, hQ, ⟨_, rfl⟩, hW, hsame.mono hC hS⟩
theorem own_widen {cells' slots' : Nat} (X : Stand p l e R s m args below meth c T locs cells slots) (h1 : cells ≤ cells') (h2 : slots ≤ slots') : Stand p l e R s m args below meth c T locs cells' slots' := { X with same := X.same.mono h1 h2 }
theorem own_lrem {g : JFrame} {target : State} (X : Stand p l e R s m args below meth c T locs cells slots) (hx : p.tables.exec = Jvm.exec) (hg : g.method = m) {x y : Int64} {rest : List Value} (hd : decode c.code g.pc = .ok (.lrem, 1)) (hs : g.stack = .long y :: .long x :: rest) (hy : y ≠ 0)
    (hr : Steps p.tables e below (T.setTop { g with pc := g.pc + 1, stack := .long (x % y) :: rest }) target) : Steps p.tables e below (T.setTop g) target :=
  XT.lrem X.here hx hg hd hs hy (by rw [lrem_mod]; exact hr)
/-- an array: its kind, its length, what place i holds -/
def OwnA (Z : State) (h : Heap) (a : Addr) (ty : FieldType) (n : Int32) (f : Int → Value) : Prop :=
  ∃ cl : Cell, Arr Z h a cl ty ∧ (cl.slots.size : Int) = n.toInt ∧ ∀ i : Int, 0 ≤ i → i < n.toInt → cl.slots[i.toNat]? = some (f i)
def ownUpd {α : Type} (f : Int → α) (j : Int) (x : α) : Int → α := fun i => if i = j then x else f i
theorem ownUpd_same {α : Type} (f : Int → α) (j : Int) (x : α) : ownUpd f j x j = x := if_pos rfl
theorem ownUpd_ne {α : Type} (f : Int → α) (j : Int) (x : α) {i : Int} (q : i ≠ j) : ownUpd f j x i = f i := if_neg q
theorem ownUpd_int (f : Int → Int32) (j : Int) (x : Int32) (i : Int) : ownUpd (fun i => Value.int (f i)) j (Value.int x) i = Value.int (ownUpd f j x i) := by unfold ownUpd; split <;> rfl
theorem ownUpd_long (f : Int → Int64) (j : Int) (x : Int64) (i : Int) : ownUpd (fun i => Value.long (f i)) j (Value.long x) i = Value.long (ownUpd f j x i) := by unfold ownUpd; split <;> rfl
variable {ty : FieldType} {n : Int32} {f : Int → Value} {ws : List Addr}
theorem OwnA.lt (F : OwnA Z h a ty n f) : a < h.size := by obtain ⟨_, A, -⟩ := F; exact A.lt
theorem OwnA.ext (F : OwnA Z h a ty n f) (E : Ext h h') : OwnA Z h' a ty n f := by obtain ⟨cl, A, r⟩ := F; exact ⟨cl, A.ext E, r⟩
theorem OwnA.keep (F : OwnA Z h a ty n f) (K : Keep h h' ws) (q : a ∉ ws) : OwnA Z h' a ty n f := by obtain ⟨cl, A, r⟩ := F; exact ⟨cl, ⟨K.2.1 a cl A.1 q, A.2⟩, r⟩
theorem OwnA.other {sl : Nat} {v : Value} (F : OwnA Z h b ty n f) (W : Wr h h' a sl v) (q : b ≠ a) : OwnA Z h' b ty n f := by obtain ⟨cl, A, r⟩ := F; exact ⟨cl, A.other W q, r⟩
theorem OwnA.len (F : OwnA Z h a ty n f) : 0 ≤ n.toInt := by obtain ⟨cl, _, r, _⟩ := F; omega
theorem OwnA.congr {f' : Int → Value} (F : OwnA Z h a ty n f) (q : ∀ i, 0 ≤ i → i < n.toInt → f i = f' i) : OwnA Z h a ty n f' := by obtain ⟨cl, A, r1, r2⟩ := F; exact ⟨cl, A, r1, fun i h1 h2 => by rw [← q i h1 h2]; exact r2 i h1 h2⟩
theorem own_clamp (j : Int32) : j.toNatClampNeg = j.toInt.toNat := rfl
theorem own_in {cl : Cell} {j : Int32} (r : (cl.slots.size : Int) = n.toInt) (h1 : 0 ≤ j.toInt) (h2 : j.toInt < n.toInt) : ¬ (j < 0 ∨ cl.slots.size ≤ j.toNatClampNeg) := by
  rw [own_clamp, Int32.lt_iff_toInt_lt, Int32.toInt_zero]; omega
theorem OwnA.new {k : ClassId} {z : Int32} (A : Arr Z h a (newA k ty z) ty) (q : 0 ≤ z.toInt) : OwnA Z h a ty z (fun _ => defaultValue ty) := by
  refine ⟨_, A, ?_, fun i h1 h2 => ?_⟩
  · rw [sz_new, own_clamp]; omega
  · have hi : i.toNat < z.toNatClampNeg := by rw [own_clamp]; omega
    show (Array.replicate z.toNatClampNeg (defaultValue ty))[i.toNat]? = _
    rw [Array.getElem?_replicate, if_pos hi]
theorem OwnA.set {j : Int32} {v : Value} (F : OwnA Z h a ty n f) (h1 : 0 ≤ j.toInt) (h2 : j.toInt < n.toInt) (W : Wr h h' a j.toNatClampNeg v) : OwnA Z h' a ty n (ownUpd f j.toInt v) := by
  obtain ⟨cl, A, r1, r2⟩ := F
  refine ⟨_, A.same W, by rw [sz_set]; exact r1, fun i g1 g2 => ?_⟩
  by_cases q : i = j.toInt
  · subst q
    rw [ownUpd_same]
    have hi : j.toNatClampNeg < cl.slots.size := by rw [own_clamp]; omega
    exact Array.getElem?_setIfInBounds_self_of_lt hi
  · rw [ownUpd_ne _ _ _ q, ← r2 i g1 g2, own_clamp]
    exact Array.getElem?_setIfInBounds_ne (by omega)
variable {g : JFrame} {target : State} {rest : List Value} {j : Int32}
theorem OwnA.alen (X : Stand p l e R s m args below meth c T locs cells slots) (hx : p.tables.exec = Jvm.exec) (hZ : Z.Warmed39 s.vm) (eT : T.heap = h) (F : OwnA Z h a ty n f) (hg : g.method = m) (hs : g.stack = .ref a :: rest) (hd : decode c.code g.pc = .ok (.arraylength, 1))
    (hr : Steps p.tables e below (T.setTop { g with pc := g.pc + 1, stack := .int n :: rest }) target) : Steps p.tables e below (T.setTop g) target := by
  obtain ⟨cl, A, r1, r2⟩ := F
  subst eT
  refine X.arraylength hx A.1 (State.isArrayOf_alike hZ.alike A.2.1) hg hs hd target ?_
  have q : cl.slots.size.toInt32 = n := by
    have q0 : cl.slots.size = n.toNatClampNeg := by rw [own_clamp]; omega
    exact len_of q0 (by rw [Int32.lt_iff_toInt_lt, Int32.toInt_zero]; omega)
  rw [q]; exact hr
theorem OwnA.ldI (X : Stand p l e R s m args below meth c T locs cells slots) (hx : p.tables.exec = Jvm.exec) (hZ : Z.Warmed39 s.vm) (eT : T.heap = h) (F : OwnA Z h a .int n f) (h1 : 0 ≤ j.toInt) (h2 : j.toInt < n.toInt) (hg : g.method = m) (hs : g.stack = .int j :: .ref a :: rest) (hd : decode c.code g.pc = .ok (.iaload, 1))
    (hr : Steps p.tables e below (T.setTop { g with pc := g.pc + 1, stack := f j.toInt :: rest }) target) : Steps p.tables e below (T.setTop g) target := by
  obtain ⟨cl, A, r1, r2⟩ := F
  subst eT
  exact X.iaload hx A.1 (State.isArrayOf_alike hZ.alike A.2.1) A.2.2 (own_in r1 h1 h2) (r2 _ h1 h2) hg hs hd target hr
theorem OwnA.ldJ (X : Stand p l e R s m args below meth c T locs cells slots) (hx : p.tables.exec = Jvm.exec) (hZ : Z.Warmed39 s.vm) (eT : T.heap = h) (F : OwnA Z h a .long n f) (h1 : 0 ≤ j.toInt) (h2 : j.toInt < n.toInt) (hg : g.method = m) (hs : g.stack = .int j :: .ref a :: rest) (hd : decode c.code g.pc = .ok (.laload, 1))
    (hr : Steps p.tables e below (T.setTop { g with pc := g.pc + 1, stack := f j.toInt :: rest }) target) : Steps p.tables e below (T.setTop g) target := by
  obtain ⟨cl, A, r1, r2⟩ := F
  subst eT
  exact X.laload hx A.1 (State.isArrayOf_alike hZ.alike A.2.1) A.2.2 (own_in r1 h1 h2) (r2 _ h1 h2) hg hs hd target hr
theorem OwnA.ldC (X : Stand p l e R s m args below meth c T locs cells slots) (hx : p.tables.exec = Jvm.exec) (hZ : Z.Warmed39 s.vm) (eT : T.heap = h) (F : OwnA Z h a .char n f) (h1 : 0 ≤ j.toInt) (h2 : j.toInt < n.toInt) (hg : g.method = m) (hs : g.stack = .int j :: .ref a :: rest) (hd : decode c.code g.pc = .ok (.caload, 1))
    (hr : Steps p.tables e below (T.setTop { g with pc := g.pc + 1, stack := f j.toInt :: rest }) target) : Steps p.tables e below (T.setTop g) target := by
  obtain ⟨cl, A, r1, r2⟩ := F
  subst eT
  exact X.caload hx A.1 (State.isArrayOf_alike hZ.alike A.2.1) A.2.2 (own_in r1 h1 h2) (r2 _ h1 h2) hg hs hd target hr
theorem OwnA.ldB (X : Stand p l e R s m args below meth c T locs cells slots) (hx : p.tables.exec = Jvm.exec) (hZ : Z.Warmed39 s.vm) (eT : T.heap = h) (F : OwnA Z h a .byte n f) (h1 : 0 ≤ j.toInt) (h2 : j.toInt < n.toInt) (hg : g.method = m) (hs : g.stack = .int j :: .ref a :: rest) (hd : decode c.code g.pc = .ok (.baload, 1))
    (hr : Steps p.tables e below (T.setTop { g with pc := g.pc + 1, stack := f j.toInt :: rest }) target) : Steps p.tables e below (T.setTop g) target := by
  obtain ⟨cl, A, r1, r2⟩ := F
  subst eT
  exact X.baloadBytes hx A.1 (State.isArrayOf_alike hZ.alike A.2.1) A.2.2 (own_in r1 h1 h2) (r2 _ h1 h2) hg hs hd target hr
theorem OwnA.ldZ (X : Stand p l e R s m args below meth c T locs cells slots) (hx : p.tables.exec = Jvm.exec) (hZ : Z.Warmed39 s.vm) (eT : T.heap = h) (F : OwnA Z h a .boolean n f) (h1 : 0 ≤ j.toInt) (h2 : j.toInt < n.toInt) (hg : g.method = m) (hs : g.stack = .int j :: .ref a :: rest) (hd : decode c.code g.pc = .ok (.baload, 1))
    (hr : Steps p.tables e below (T.setTop { g with pc := g.pc + 1, stack := f j.toInt :: rest }) target) : Steps p.tables e below (T.setTop g) target := by
  obtain ⟨cl, A, r1, r2⟩ := F
  subst eT
  exact X.baloadBooleans hx A.1 (State.isArrayOf_alike hZ.alike A.2.1) A.2.2 (own_in r1 h1 h2) (r2 _ h1 h2) hg hs hd target hr
theorem own_frs {k : Nat} {sl : Nat} (N : Fr k locs) (q : k ≤ a) : Fr k (locs ++ [⟨a, sl⟩]) := N.app fun y hy => by cases List.mem_singleton.mp hy; exact q
theorem OwnA.stI {n0 : Nat} {x : Int32} (X : Stand p l e R s m args below meth c T locs cells slots) (hx : p.tables.exec = Jvm.exec) (hZ : Z.Warmed39 s.vm) (eT : T.heap = h) (N : Fr n0 locs) (q : n0 ≤ a) (F : OwnA Z h a .int n f) (h1 : 0 ≤ j.toInt) (h2 : j.toInt < n.toInt) (hg : g.method = m) (hs : g.stack = .int x :: .int j :: .ref a :: rest) (hd : decode c.code g.pc = .ok (.iastore, 1)) :
    ∃ T' h' L', Stand p l e R s m args below meth c T' L' cells slots ∧ T'.heap = h' ∧ Fr n0 L' ∧ Keep h h' [a] ∧ OwnA Z h' a .int n (ownUpd f j.toInt (.int x)) ∧ ∀ target, Steps p.tables e below (T'.setTop { g with pc := g.pc + 1, stack := rest }) target → Steps p.tables e below (T.setTop g) target := by
  obtain ⟨cl, A, r1, r2⟩ := id F
  obtain ⟨T', h', X', e', W, st⟩ := RoadKit.stI X hx hZ eT A (own_in r1 h1 h2) hg hs hd
  exact ⟨T', h', _, X', e', own_frs N q, Keep.of_wr W, F.set h1 h2 W, st⟩
theorem OwnA.stJ {n0 : Nat} {x : Int64} (X : Stand p l e R s m args below meth c T locs cells slots) (hx : p.tables.exec = Jvm.exec) (hZ : Z.Warmed39 s.vm) (eT : T.heap = h) (N : Fr n0 locs) (q : n0 ≤ a) (F : OwnA Z h a .long n f) (h1 : 0 ≤ j.toInt) (h2 : j.toInt < n.toInt) (hg : g.method = m) (hs : g.stack = .long x :: .int j :: .ref a :: rest) (hd : decode c.code g.pc = .ok (.lastore, 1)) :
    ∃ T' h' L', Stand p l e R s m args below meth c T' L' cells slots ∧ T'.heap = h' ∧ Fr n0 L' ∧ Keep h h' [a] ∧ OwnA Z h' a .long n (ownUpd f j.toInt (.long x)) ∧ ∀ target, Steps p.tables e below (T'.setTop { g with pc := g.pc + 1, stack := rest }) target → Steps p.tables e below (T.setTop g) target := by
  obtain ⟨cl, A, r1, r2⟩ := id F
  obtain ⟨T', h', X', e', W, st⟩ := RoadKit.stJ X hx hZ eT A (own_in r1 h1 h2) hg hs hd
  exact ⟨T', h', _, X', e', own_frs N q, Keep.of_wr W, F.set h1 h2 W, st⟩
theorem OwnA.stC {n0 : Nat} {x : Int32} (X : Stand p l e R s m args below meth c T locs cells slots) (hx : p.tables.exec = Jvm.exec) (hZ : Z.Warmed39 s.vm) (eT : T.heap = h) (N : Fr n0 locs) (q : n0 ≤ a) (F : OwnA Z h a .char n f) (h1 : 0 ≤ j.toInt) (h2 : j.toInt < n.toInt) (hg : g.method = m) (hs : g.stack = .int x :: .int j :: .ref a :: rest) (hd : decode c.code g.pc = .ok (.castore, 1)) :
    ∃ T' h' L', Stand p l e R s m args below meth c T' L' cells slots ∧ T'.heap = h' ∧ Fr n0 L' ∧ Keep h h' [a] ∧ OwnA Z h' a .char n (ownUpd f j.toInt (.int (nar .char x))) ∧ ∀ target, Steps p.tables e below (T'.setTop { g with pc := g.pc + 1, stack := rest }) target → Steps p.tables e below (T.setTop g) target := by
  obtain ⟨cl, A, r1, r2⟩ := id F
  obtain ⟨T', h', X', e', W, st⟩ := RoadKit.stC X hx hZ eT A (own_in r1 h1 h2) hg hs hd
  exact ⟨T', h', _, X', e', own_frs N q, Keep.of_wr W, F.set h1 h2 W, st⟩
theorem OwnA.stB {n0 : Nat} {x : Int32} (X : Stand p l e R s m args below meth c T locs cells slots) (hx : p.tables.exec = Jvm.exec) (hZ : Z.Warmed39 s.vm) (eT : T.heap = h) (N : Fr n0 locs) (q : n0 ≤ a) (F : OwnA Z h a .byte n f) (h1 : 0 ≤ j.toInt) (h2 : j.toInt < n.toInt) (hg : g.method = m) (hs : g.stack = .int x :: .int j :: .ref a :: rest) (hd : decode c.code g.pc = .ok (.bastore, 1)) :
    ∃ T' h' L', Stand p l e R s m args below meth c T' L' cells slots ∧ T'.heap = h' ∧ Fr n0 L' ∧ Keep h h' [a] ∧ OwnA Z h' a .byte n (ownUpd f j.toInt (.int (nar .byte x))) ∧ ∀ target, Steps p.tables e below (T'.setTop { g with pc := g.pc + 1, stack := rest }) target → Steps p.tables e below (T.setTop g) target := by
  obtain ⟨cl, A, r1, r2⟩ := id F
  obtain ⟨T', h', X', e', W, st⟩ := RoadKit.stB X hx hZ eT A (own_in r1 h1 h2) hg hs hd
  exact ⟨T', h', _, X', e', own_frs N q, Keep.of_wr W, F.set h1 h2 W, st⟩
theorem OwnA.stZ {n0 : Nat} {x : Int32} (X : Stand p l e R s m args below meth c T locs cells slots) (hx : p.tables.exec = Jvm.exec) (hZ : Z.Warmed39 s.vm) (eT : T.heap = h) (N : Fr n0 locs) (q : n0 ≤ a) (F : OwnA Z h a .boolean n f) (h1 : 0 ≤ j.toInt) (h2 : j.toInt < n.toInt) (hg : g.method = m) (hs : g.stack = .int x :: .int j :: .ref a :: rest) (hd : decode c.code g.pc = .ok (.bastore, 1)) :
    ∃ T' h' L', Stand p l e R s m args below meth c T' L' cells slots ∧ T'.heap = h' ∧ Fr n0 L' ∧ Keep h h' [a] ∧ OwnA Z h' a .boolean n (ownUpd f j.toInt (.int (nar .boolean x))) ∧ ∀ target, Steps p.tables e below (T'.setTop { g with pc := g.pc + 1, stack := rest }) target → Steps p.tables e below (T.setTop g) target := by
  obtain ⟨cl, A, r1, r2⟩ := id F
  obtain ⟨T', h', X', e', W, st⟩ := RoadKit.stZ X hx hZ eT A (own_in r1 h1 h2) hg hs hd
  exact ⟨T', h', _, X', e', own_frs N q, Keep.of_wr W, F.set h1 h2 W, st⟩
end OwnKit
theorem own_ofi {n : Int} (h1 : -2147483648 ≤ n) (h2 : n < 2147483648) : (Int32.ofInt n).toInt = n := by
  rw [Int32.toInt_ofInt, show Int32.size = 4294967296 from rfl, Int.bmod_eq_of_le (by omega) (by omega)]
theorem own_ofj {n : Int} (h1 : -9223372036854775808 ≤ n) (h2 : n < 9223372036854775808) : (Int64.ofInt n).toInt = n := by
  rw [Int64.toInt_ofInt, show Int64.size = 18446744073709551616 from rfl, Int.bmod_eq_of_le (by omega) (by omega)]
/-- an int between 0 and n is one of finitely many -/
theorem own_fin {x : Int32} {n : Nat} (h1 : 0 ≤ x.toInt) (h2 : x.toInt < n) : ∃ k : Fin n, x = Int32.ofInt (k.1 : Int) := by
  have h3 := x.toInt_lt
  refine ⟨⟨x.toInt.toNat, by omega⟩, Int32.toInt_inj.mp ?_⟩
  show _ = (Int32.ofInt ((x.toInt.toNat : Nat) : Int)).toInt
  rw [own_ofi (by omega) (by omega)]; omega
theorem own_specialW {p : Program} {l : Launch} {e : Env} {R : Room} {s : State} {m : MethodId} {args : Array Value} {below : List Frame} {meth : Method} {c : Code} {T : State} {locs : List Loc} {cells slots : Nat} {Z : State} {a0 : Array Value}
    (X : Stand p l e R s m args below meth c T locs cells slots) (hx : p.tables.exec = Jvm.exec) {own : String} {index : Nat} {y : MethodName} (hy1 : y.name = "<init>") (hown : s.vm.findClass own = some m.cls) (hZ : Z.Warmed39 s.vm)
    (w : (Cond.methodRef own index y).before a0 Z = true) (hinst : (Cond.instanceMethod y).before args s = true) {bytes : ByteArray} {maxL : Nat} (hcode : (Cond.code y bytes maxL none).before args s = true)
    (hy : y.cls ≠ "java/lang/invoke/MethodHandle" ∧ y.cls ≠ "java/lang/invoke/VarHandle")
    {W : Nat} {Pre : Free.Pt → Array Value → Prop} {Post : Free.Pt → Array Value → Option Value → Free.Pt → Prop} (hK : Free.Back l R p e below s args y 3 W Pre Post)
    {g : JFrame} (hg : g.method = m) (hsize : g.locals.size = c.maxLocals) {s₀ : State} (hcome : Steps p.tables e below s₀ (T.setTop g)) {a : Addr} {argsL rest : List Value}
    (hlen : ∀ sig, parseMethodDescriptor y.desc = some sig → argsL.length = sig.parameters.length) (hstack : g.stack = argsL.reverse ++ .ref a :: rest) (hW : 2 * g.monitorRoom + (rest.map fun v => v.category).sum ≤ W)
    (hdg : decode c.code g.pc = .ok (.invokespecial index, 3)) (hpre : ∀ vm₁, s.WarmedH vm₁ → Pre ⟨T.setVm vm₁, locs, cells, slots⟩ (.ref a :: argsL).toArray) :
    ∃ (v : Option Value) (vm₁ : Vm) (B : Free.Pt), s.WarmedH vm₁ ∧ Stand p l e R s m args below meth c B.U B.locs B.cells B.slots ∧ Post ⟨T.setVm vm₁, locs, cells, slots⟩ (.ref a :: argsL).toArray v B ∧
      Steps p.tables e below s₀ (B.U.setTop { g with pc := g.pc + 3, stack := v.toList ++ rest }) := by
  refine Free.SCall.of_ready hx hy1 hinst hcode (fun U r hU hn => ?_) X hK hg hsize hcome hlen hstack hW hdg hpre
  have hZU : Z.Warmed39 U.vm := wtrans hZ hU
  have hnZ : Z.methodNamed? y = some r := by
    rw [← State.methodNamed?_setVm hZ.alike, ← hn]
    exact congrFun (State.methodNamed?_of_vm rfl) y
  have w1 := Cond.methodRef_warmed39 hZU hnZ hy w
  have hcur : (Z.setVm U.vm).vm.findClass own = some m.cls := by
    show U.vm.findClass own = some m.cls
    rw [hU.alike.findClass]; exact hown
  obtain ⟨r', c', hf, hready, hfc, hnr⟩ := Cond.methodRef_named e hcur w1
  have hnU : (Z.setVm U.vm).methodNamed? y = some r := by rw [State.methodNamed?_setVm hZU.alike]; exact hnZ
  cases hf.symm.trans (State.methodFound?_of_named hnU hy)
  cases hfc.symm.trans (findClass_of_methodNamed hnU)
  exact ⟨hnr, hready⟩

/-! the table of numbers, open addressed: positions 0 to n - 1, n is 4 or 8 -/
def own_hm (n : Int) (x : Int32) : Int := if n = 4 then (XT.ushr (x * ((-1640531527) : Int32)) 30).toInt else (XT.ushr (x * ((-1640531527) : Int32)) 29).toInt
def own_len (n : Int) : Prop := n = 4 ∨ n = 8
theorem own_hm_rng {n : Int} (hn : own_len n) (x : Int32) : 0 ≤ own_hm n x ∧ own_hm n x < n := by
  have a := c_iushr (x * ((-1640531527) : Int32)) 30 30 (by decide) (by decide)
  have b := c_iushr (x * ((-1640531527) : Int32)) 29 29 (by decide) (by decide)
  have a' : (XT.ushr (x * ((-1640531527) : Int32)) 30).toInt = _ := a
  have b' : (XT.ushr (x * ((-1640531527) : Int32)) 29).toInt = _ := b
  unfold own_hm
  rcases hn with rfl | rfl
  · rw [if_pos rfl, a']; omega
  · rw [if_neg (by decide), b']; omega
/-- the place k steps behind the home of x -/
def own_at (n : Int) (x : Int32) (k : Nat) : Int := (own_hm n x + (k : Int)) % n
theorem own_at_rng {n : Int} (hn : own_len n) (x : Int32) (k : Nat) : 0 ≤ own_at n x k ∧ own_at n x k < n := by
  unfold own_at
  rcases hn with rfl | rfl <;> omega
theorem own_at0 {n : Int} (hn : own_len n) (x : Int32) : own_at n x 0 = own_hm n x := by
  have := own_hm_rng hn x
  unfold own_at
  rcases hn with rfl | rfl <;> omega
theorem own_at_next {n : Int} (hn : own_len n) (x : Int32) (k : Nat) : own_at n x (k + 1) = (own_at n x k + 1) % n := by
  unfold own_at
  rcases hn with rfl | rfl <;> omega
/-- every place is some steps behind the home -/
theorem own_at_all {n : Int} (hn : own_len n) (x : Int32) (i : Int) (h1 : 0 ≤ i) (h2 : i < n) : ∃ k : Nat, (k : Int) < n ∧ own_at n x k = i := by
  have := own_hm_rng hn x
  refine ⟨((i - own_hm n x) % n).toNat, ?_, ?_⟩
  · rcases hn with rfl | rfl <;> omega
  · unfold own_at
    rcases hn with rfl | rfl <;> omega
def own_mem (n : Int) (f : Int → Int32) (y : Int32) : Prop := ∃ i : Int, 0 ≤ i ∧ i < n ∧ f i = y
/-- distinct numbers; each is found from its home on without a free place in between -/
def own_tab (n : Int) (f : Int → Int32) : Prop :=
  (∀ i j : Int, 0 ≤ i → i < n → 0 ≤ j → j < n → f i = f j → f i ≠ 0 → i = j) ∧
  (∀ i : Int, 0 ≤ i → i < n → f i ≠ 0 → ∃ k : Nat, (k : Int) < n ∧ own_at n (f i) k = i ∧ ∀ k' : Nat, k' < k → f (own_at n (f i) k') ≠ 0)
/-- what find gives -/
def own_found (n : Int) (f : Int → Int32) (x : Int32) (r : Int) : Prop :=
  (f r = 0 ∨ f r = x) ∧ ∃ k : Nat, own_at n x k = r ∧ ∀ k' : Nat, k' < k → f (own_at n x k') ≠ 0 ∧ f (own_at n x k') ≠ x
theorem own_found_rng {n : Int} (hn : own_len n) {f : Int → Int32} {x : Int32} {r : Int} (h : own_found n f x r) : 0 ≤ r ∧ r < n := by
  obtain ⟨-, k, rfl, -⟩ := h
  exact own_at_rng hn x k
theorem own_found_mem {n : Int} {f : Int → Int32} {x : Int32} {r : Int} (T : own_tab n f) (hx : x ≠ 0) (h : own_found n f x r) (m : own_mem n f x) : f r = x := by
  obtain ⟨i, h1, h2, h3⟩ := m
  obtain ⟨h4, k, rfl, h5⟩ := h
  rcases h4 with h4 | h4
  · obtain ⟨q, -, q2, q3⟩ := T.2 i h1 h2 (by rw [h3]; exact hx)
    rw [h3] at q2 q3
    rcases Nat.lt_trichotomy q k with hq | hq | hq
    · exact absurd (by rw [q2]; exact h3) (h5 q hq).2
    · rw [← hq, q2] at h4; rw [h4] at h3; exact absurd h3.symm hx
    · exact absurd h4 (q3 k hq)
  · exact h4
theorem own_found_not {n : Int} (hn : own_len n) {f : Int → Int32} {x : Int32} {r : Int} (h : own_found n f x r) (m : ¬ own_mem n f x) : f r = 0 := by
  have hr := own_found_rng hn h
  exact h.1.resolve_right fun q => m ⟨r, hr.1, hr.2, q⟩
theorem own_mem_of {n : Int} (hn : own_len n) {f : Int → Int32} {x : Int32} {r : Int} (h : own_found n f x r) (m : f r ≠ 0) : own_mem n f x := by
  have hr := own_found_rng hn h
  exact ⟨r, hr.1, hr.2, h.1.resolve_left m⟩
theorem own_not_of {n : Int} {f : Int → Int32} {x : Int32} {r : Int} (T : own_tab n f) (hx : x ≠ 0) (h : own_found n f x r) (m : f r = 0) : ¬ own_mem n f x := fun q => by
  rw [own_found_mem T hx h q] at m; exact hx m
theorem own_put_mem {n : Int} {f : Int → Int32} {x : Int32} {r : Int} (hr : 0 ≤ r ∧ r < n) (h0 : f r = 0) {y : Int32} (hy : y ≠ 0) : own_mem n (ownUpd f r x) y ↔ (own_mem n f y ∨ y = x) := by
  constructor
  · rintro ⟨i, h1, h2, h3⟩
    by_cases q : i = r
    · rw [q, ownUpd_same] at h3; exact Or.inr h3.symm
    · rw [ownUpd_ne _ _ _ q] at h3; exact Or.inl ⟨i, h1, h2, h3⟩
  · rintro (⟨i, h1, h2, h3⟩ | rfl)
    · have q : i ≠ r := fun q => by rw [q, h0] at h3; exact hy h3.symm
      exact ⟨i, h1, h2, by rw [ownUpd_ne _ _ _ q]; exact h3⟩
    · exact ⟨r, hr.1, hr.2, ownUpd_same _ _ _⟩
theorem own_put_tab {n : Int} (hn : own_len n) {f : Int → Int32} {x : Int32} {r : Int} (T : own_tab n f) (hx : x ≠ 0) (h : own_found n f x r) (h0 : f r = 0) : own_tab n (ownUpd f r x) := by
  have hr := own_found_rng hn h
  have hm := own_not_of T hx h h0
  have hne : ∀ i, f i ≠ 0 → ownUpd f r x i = f i := fun i q => ownUpd_ne _ _ _ (fun e => by rw [e] at q; exact q h0)
  have hnz : ∀ i, f i ≠ 0 → ownUpd f r x i ≠ 0 := fun i q => by rw [hne i q]; exact q
  refine ⟨fun i j i1 i2 j1 j2 e z => ?_, fun i i1 i2 z => ?_⟩
  · by_cases q1 : i = r
    · by_cases q2 : j = r
      · rw [q1, q2]
      · rw [q1, ownUpd_same, ownUpd_ne _ _ _ q2] at e
        exact absurd ⟨j, j1, j2, e.symm⟩ hm
    · by_cases q2 : j = r
      · rw [q2, ownUpd_same, ownUpd_ne _ _ _ q1] at e
        exact absurd ⟨i, i1, i2, e⟩ hm
      · rw [ownUpd_ne _ _ _ q1, ownUpd_ne _ _ _ q2] at e
        rw [ownUpd_ne _ _ _ q1] at z
        exact T.1 i j i1 i2 j1 j2 e z
  · by_cases q1 : i = r
    · obtain ⟨-, k, hk, h5⟩ := h
      rw [q1, ownUpd_same]
      -- the least such k is below n
      have hk' : ∀ k' : Nat, k' < k → ownUpd f r x (own_at n x k') ≠ 0 := fun k' hk' => hnz _ (h5 k' hk').1
      obtain ⟨k0, h6, h7⟩ := own_at_all hn x r hr.1 hr.2
      by_cases hlt : (k : Int) < n
      · exact ⟨k, hlt, hk, hk'⟩
      · exact absurd (by rw [h7]; exact h0) (h5 k0 (by omega)).1
    · rw [ownUpd_ne _ _ _ q1] at z ⊢
      obtain ⟨k, k1, k2, k3⟩ := T.2 i i1 i2 z
      exact ⟨k, k1, k2, fun k' hk' => hnz _ (k3 k' hk')⟩
/-- how many of the first k places are taken -/
def own_cnt (f : Int → Int32) : Nat → Nat
  | 0 => 0
  | k + 1 => own_cnt f k + (if f (k : Int) = 0 then 0 else 1)
theorem own_cnt_congr {f g : Int → Int32} : ∀ (k : Nat), (∀ i : Int, 0 ≤ i → i < (k : Int) → (f i = 0 ↔ g i = 0)) → own_cnt f k = own_cnt g k
  | 0, _ => rfl
  | k + 1, h => by
    show own_cnt f k + _ = own_cnt g k + _
    rw [own_cnt_congr k (fun i h1 h2 => h i h1 (by omega))]
    have := h (k : Int) (by omega) (by omega)
    by_cases q : f (k : Int) = 0
    · rw [if_pos q, if_pos (this.mp q)]
    · rw [if_neg q, if_neg (fun e => q (this.mpr e))]
theorem own_cnt_put {f : Int → Int32} {x : Int32} (hx : x ≠ 0) {r : Int} (h0 : f r = 0) (hr : 0 ≤ r) : ∀ (k : Nat), r < (k : Int) → own_cnt (ownUpd f r x) k = own_cnt f k + 1
  | 0, h => absurd h (by omega)
  | k + 1, h => by
    show own_cnt _ k + _ = own_cnt f k + _ + 1
    by_cases q : r = (k : Int)
    · rw [own_cnt_congr (g := f) k (fun i h1 h2 => by rw [ownUpd_ne _ _ _ (by omega)])]
      rw [← q, ownUpd_same, if_neg hx, if_pos h0]
    · rw [own_cnt_put hx h0 hr k (by omega), ownUpd_ne _ _ _ (fun e => q e.symm)]; omega
theorem own_cnt_del {f : Int → Int32} {r : Int} (h0 : f r ≠ 0) (hr : 0 ≤ r) : ∀ (k : Nat), r < (k : Int) → own_cnt (ownUpd f r 0) k + 1 = own_cnt f k
  | 0, h => absurd h (by omega)
  | k + 1, h => by
    show own_cnt _ k + _ + 1 = own_cnt f k + _
    by_cases q : r = (k : Int)
    · rw [own_cnt_congr (g := f) k (fun i h1 h2 => by rw [ownUpd_ne _ _ _ (by omega)])]
      rw [← q, ownUpd_same, if_pos rfl, if_neg h0]
    · have := own_cnt_del h0 hr k (by omega)
      rw [ownUpd_ne _ _ _ (fun e => q e.symm)]; omega
theorem own_cnt_full {f : Int → Int32} : ∀ (k : Nat), (∀ i : Int, 0 ≤ i → i < (k : Int) → f i ≠ 0) → own_cnt f k = k
  | 0, _ => rfl
  | k + 1, h => by
    show own_cnt f k + _ = _
    rw [own_cnt_full k (fun i h1 h2 => h i h1 (by omega)), if_neg (h (k : Int) (by omega) (by omega))]
theorem own_cnt_le {f : Int → Int32} : ∀ (k : Nat), own_cnt f k ≤ k
  | 0 => Nat.le_refl _
  | k + 1 => by
    show own_cnt f k + _ ≤ _
    have := own_cnt_le (f := f) k
    split <;> omega
theorem own_free {f : Int → Int32} (k : Nat) (h : own_cnt f k < k) : ∃ i : Int, 0 ≤ i ∧ i < (k : Int) ∧ f i = 0 := by
  apply Classical.byContradiction
  intro q
  have := own_cnt_full (f := f) k (fun i h1 h2 h3 => q ⟨i, h1, h2, h3⟩)
  omega
theorem own_zero_tab (n : Int) : own_tab n (fun _ => 0) := ⟨fun _ _ _ _ _ _ _ h => absurd rfl h, fun _ _ _ h => absurd rfl h⟩
theorem own_zero_cnt : ∀ k : Nat, own_cnt (fun _ => 0) k = 0
  | 0 => rfl
  | k + 1 => by show own_cnt _ k + _ = 0; rw [own_zero_cnt k]; rfl
/-- distinct numbers alone -/
def own_inj (n : Int) (f : Int → Int32) : Prop := ∀ i j : Int, 0 ≤ i → i < n → 0 ≤ j → j < n → f i = f j → f i ≠ 0 → i = j
/-- a number moved from place a to the free place b -/
theorem own_move_mem {n : Int} {f : Int → Int32} {a b : Int} (ha : 0 ≤ a ∧ a < n) (hb : 0 ≤ b ∧ b < n) (h0 : f b = 0) (h1 : f a ≠ 0) {y : Int32} (hy : y ≠ 0) : own_mem n (ownUpd (ownUpd f b (f a)) a 0) y ↔ own_mem n f y := by
  have hab : b ≠ a := fun e => h1 (by rw [← e]; exact h0)
  constructor
  · rintro ⟨i, i1, i2, i3⟩
    by_cases q : i = a
    · rw [q, ownUpd_same] at i3; exact absurd i3.symm hy
    · rw [ownUpd_ne _ _ _ q] at i3
      by_cases q2 : i = b
      · rw [q2, ownUpd_same] at i3; exact ⟨a, ha.1, ha.2, i3⟩
      · rw [ownUpd_ne _ _ _ q2] at i3; exact ⟨i, i1, i2, i3⟩
  · rintro ⟨i, i1, i2, i3⟩
    by_cases q : i = a
    · exact ⟨b, hb.1, hb.2, by rw [ownUpd_ne _ _ _ hab, ownUpd_same, ← q]; exact i3⟩
    · have q2 : i ≠ b := fun e => by rw [e, h0] at i3; exact hy i3.symm
      exact ⟨i, i1, i2, by rw [ownUpd_ne _ _ _ q, ownUpd_ne _ _ _ q2]; exact i3⟩
theorem own_move_inj {n : Int} {f : Int → Int32} {a b : Int} (ha : 0 ≤ a ∧ a < n) (hb : 0 ≤ b ∧ b < n) (h0 : f b = 0) (h1 : f a ≠ 0) (I : own_inj n f) : own_inj n (ownUpd (ownUpd f b (f a)) a 0) := by
  have hab : b ≠ a := fun e => h1 (by rw [← e]; exact h0)
  intro i j i1 i2 j1 j2 e z
  have hi : i ≠ a := fun q => by rw [q, ownUpd_same] at z; exact z rfl
  have hj : j ≠ a := fun q => by rw [e, q, ownUpd_same] at z; exact z rfl
  rw [ownUpd_ne _ _ _ hi] at e z
  rw [ownUpd_ne _ _ _ hj] at e
  by_cases qi : i = b
  · by_cases qj : j = b
    · rw [qi, qj]
    · rw [qi, ownUpd_same, ownUpd_ne _ _ _ qj] at e
      exact absurd (I a j ha.1 ha.2 j1 j2 e h1) (fun q => hj q.symm)
  · by_cases qj : j = b
    · rw [qj, ownUpd_same, ownUpd_ne _ _ _ qi] at e
      exact absurd (I a i ha.1 ha.2 i1 i2 e.symm h1) (fun q => hi q.symm)
    · rw [ownUpd_ne _ _ _ qi] at e z
      rw [ownUpd_ne _ _ _ qj] at e
      exact I i j i1 i2 j1 j2 e z
theorem own_move_cnt {f : Int → Int32} {a b : Int} (k : Nat) (ha : 0 ≤ a ∧ a < (k : Int)) (hb : 0 ≤ b ∧ b < (k : Int)) (h0 : f b = 0) (h1 : f a ≠ 0) : own_cnt (ownUpd (ownUpd f b (f a)) a 0) k = own_cnt f k := by
  have hab : a ≠ b := fun e => h1 (by rw [e]; exact h0)
  have a1 := own_cnt_put (f := f) h1 h0 hb.1 k hb.2
  have a2 := own_cnt_del (f := ownUpd f b (f a)) (r := a) (by rw [ownUpd_ne _ _ _ hab]; exact h1) ha.1 k ha.2
  omega
theorem own_del_mem {n : Int} {f : Int → Int32} {r : Int} {x : Int32} (hr : 0 ≤ r ∧ r < n) (I : own_inj n f) (hx : f r = x) (h0 : x ≠ 0) {y : Int32} (hy : y ≠ 0) : own_mem n (ownUpd f r 0) y ↔ (own_mem n f y ∧ y ≠ x) := by
  constructor
  · rintro ⟨i, i1, i2, i3⟩
    have q : i ≠ r := fun e => by rw [e, ownUpd_same] at i3; exact hy i3.symm
    rw [ownUpd_ne _ _ _ q] at i3
    refine ⟨⟨i, i1, i2, i3⟩, fun e => q (I i r i1 i2 hr.1 hr.2 (by rw [i3, hx, e]) (by rw [i3]; exact hy))⟩
  · rintro ⟨⟨i, i1, i2, i3⟩, h⟩
    have q : i ≠ r := fun e => h (by rw [← i3, e, hx])
    exact ⟨i, i1, i2, by rw [ownUpd_ne _ _ _ q]; exact i3⟩
theorem own_del_inj {n : Int} {f : Int → Int32} {r : Int} (I : own_inj n f) : own_inj n (ownUpd f r 0) := by
  intro i j i1 i2 j1 j2 e z
  have hi : i ≠ r := fun q => by rw [q, ownUpd_same] at z; exact z rfl
  have hj : j ≠ r := fun q => by rw [e, q, ownUpd_same] at z; exact z rfl
  rw [ownUpd_ne _ _ _ hi] at e z
  rw [ownUpd_ne _ _ _ hj] at e
  exact I i j i1 i2 j1 j2 e z
/-- the numbers of the first i places, in order, in the first c places of A -/
def own_arr (f A : Int → Int32) (i c : Int) : Prop := ∃ pos : Int → Int, (∀ j : Int, 0 ≤ j → j < c → 0 ≤ pos j ∧ pos j < i ∧ f (pos j) = A j ∧ A j ≠ 0) ∧ (∀ j j' : Int, 0 ≤ j → j < j' → j' < c → pos j < pos j') ∧ ∀ i' : Int, 0 ≤ i' → i' < i → f i' ≠ 0 → ∃ j : Int, 0 ≤ j ∧ j < c ∧ A j = f i'
theorem own_arr0 (f A : Int → Int32) : own_arr f A 0 0 := ⟨fun _ => 0, fun j h1 h2 => by omega, fun j j' h1 h2 h3 => by omega, fun i' h1 h2 => by omega⟩
theorem own_arr_skip {f A : Int → Int32} {i c : Int} (h : own_arr f A i c) (hi : f i = 0) : own_arr f A (i + 1) c := by
  obtain ⟨pos, h1, h2, h3⟩ := h
  refine ⟨pos, fun j j1 j2 => ?_, h2, fun i' i1 i2 z => ?_⟩
  · obtain ⟨q1, q2, q3⟩ := h1 j j1 j2
    exact ⟨q1, by omega, q3⟩
  · have : i' ≠ i := fun e => z (by rw [e]; exact hi)
    exact h3 i' i1 (by omega) z
theorem own_arr_take {f A : Int → Int32} {i c : Int} (h : own_arr f A i c) (hi : f i ≠ 0) (h0 : 0 ≤ i) (hc : 0 ≤ c) : own_arr f (ownUpd A c (f i)) (i + 1) (c + 1) := by
  obtain ⟨pos, h1, h2, h3⟩ := h
  refine ⟨ownUpd pos c i, fun j j1 j2 => ?_, fun j j' j1 j2 j3 => ?_, fun i' i1 i2 z => ?_⟩
  · by_cases q : j = c
    · rw [q, ownUpd_same, ownUpd_same]; exact ⟨h0, by omega, rfl, hi⟩
    · obtain ⟨q1, q2, q3⟩ := h1 j j1 (by omega)
      rw [ownUpd_ne _ _ _ q, ownUpd_ne _ _ _ q]; exact ⟨q1, by omega, q3⟩
  · have hj : j ≠ c := by omega
    rw [ownUpd_ne _ _ _ hj]
    by_cases q : j' = c
    · rw [q, ownUpd_same]; exact (h1 j j1 (by omega)).2.1
    · rw [ownUpd_ne _ _ _ q]; exact h2 j j' j1 j2 (by omega)
  · by_cases q : i' = i
    · exact ⟨c, hc, by omega, by rw [q, ownUpd_same]⟩
    · obtain ⟨j, q1, q2, q3⟩ := h3 i' i1 (by omega) z
      exact ⟨j, q1, by omega, by rw [ownUpd_ne _ _ _ (by omega)]; exact q3⟩
theorem own_arr_inj {f A : Int → Int32} {n c : Int} (h : own_arr f A n c) (I : own_inj n f) (j j' : Int) (h1 : 0 ≤ j) (h2 : j < j') (h3 : j' < c) : A j ≠ A j' := fun e => by
  obtain ⟨pos, g1, g2, g3⟩ := h
  obtain ⟨a1, a2, a3, a4⟩ := g1 j h1 (by omega)
  obtain ⟨b1, b2, b3, b4⟩ := g1 j' (by omega) h3
  have := I (pos j) (pos j') a1 a2 b1 b2 (by rw [a3, b3]; exact e) (by rw [a3]; exact a4)
  have := g2 j j' h1 h2 h3
  omega
theorem own_arr_mem {f A : Int → Int32} {n c : Int} (h : own_arr f A n c) (j : Int) (h1 : 0 ≤ j) (h2 : j < c) : A j ≠ 0 ∧ own_mem n f (A j) := by
  obtain ⟨pos, g1, g2, g3⟩ := h
  obtain ⟨a1, a2, a3, a4⟩ := g1 j h1 h2
  exact ⟨a4, pos j, a1, a2, a3⟩
theorem own_arr_has {f A : Int → Int32} {n c : Int} (h : own_arr f A n c) {y : Int32} (hy : y ≠ 0) (m : own_mem n f y) : ∃ j : Int, 0 ≤ j ∧ j < c ∧ A j = y := by
  obtain ⟨pos, g1, g2, g3⟩ := h
  obtain ⟨i, i1, i2, i3⟩ := m
  obtain ⟨j, q1, q2, q3⟩ := g3 i i1 i2 (by rw [i3]; exact hy)
  exact ⟨j, q1, q2, by rw [q3, i3]⟩

theorem own_nl {p : Int32} (h : p = 3 ∨ p = 7) : (0 : Int32) < p ∧ p < (65536 : Int32) ∧ p < (256 : Int32) ∧ p < (16 : Int32) := by rcases h with rfl | rfl <;> decide
theorem own_nl48 {p w : Int32} (h : p = 4 ∨ p = 8) (q : w = p - (1 : Int32)) : w = 3 ∨ w = 7 := by rcases h with rfl | rfl <;> subst q <;> decide
theorem d8_0 : decode jdk_33_method_47_code 0 = .ok (.iload_n 0, 1) := by decide +kernel
theorem d8_1 : decode jdk_33_method_47_code 1 = .ok (.ifCond .gt 14, 3) := by decide +kernel
theorem d8_15 : decode jdk_33_method_47_code 15 = .ok (.bipush 31, 2) := by decide +kernel
theorem d8_17 : decode jdk_33_method_47_code 17 = .ok (.istore_n 1, 1) := by decide +kernel
theorem d8_18 : decode jdk_33_method_47_code 18 = .ok (.iload_n 0, 1) := by decide +kernel
theorem d8_19 : decode jdk_33_method_47_code 19 = .ok (.ldc_w 264, 3) := by decide +kernel
theorem d8_22 : decode jdk_33_method_47_code 22 = .ok (.if_icmp .lt 11, 3) := by decide +kernel
theorem d8_33 : decode jdk_33_method_47_code 33 = .ok (.iload_n 0, 1) := by decide +kernel
theorem d8_34 : decode jdk_33_method_47_code 34 = .ok (.sipush 256, 3) := by decide +kernel
theorem d8_37 : decode jdk_33_method_47_code 37 = .ok (.if_icmp .lt 11, 3) := by decide +kernel
theorem d8_48 : decode jdk_33_method_47_code 48 = .ok (.iload_n 0, 1) := by decide +kernel
theorem d8_49 : decode jdk_33_method_47_code 49 = .ok (.bipush 16, 2) := by decide +kernel
theorem d8_51 : decode jdk_33_method_47_code 51 = .ok (.if_icmp .lt 10, 3) := by decide +kernel
theorem d8_61 : decode jdk_33_method_47_code 61 = .ok (.iload_n 0, 1) := by decide +kernel
theorem d8_62 : decode jdk_33_method_47_code 62 = .ok (.iconst 4, 1) := by decide +kernel
theorem d8_63 : decode jdk_33_method_47_code 63 = .ok (.if_icmp .lt 10, 3) := by decide +kernel
theorem d8_66 : decode jdk_33_method_47_code 66 = .ok (.iinc 1 (-2), 3) := by decide +kernel
theorem d8_69 : decode jdk_33_method_47_code 69 = .ok (.iload_n 0, 1) := by decide +kernel
theorem d8_70 : decode jdk_33_method_47_code 70 = .ok (.iconst 2, 1) := by decide +kernel
theorem d8_71 : decode jdk_33_method_47_code 71 = .ok (.iushr, 1) := by decide +kernel
theorem d8_72 : decode jdk_33_method_47_code 72 = .ok (.istore_n 0, 1) := by decide +kernel
theorem d8_73 : decode jdk_33_method_47_code 73 = .ok (.iload_n 1, 1) := by decide +kernel
theorem d8_74 : decode jdk_33_method_47_code 74 = .ok (.iload_n 0, 1) := by decide +kernel
theorem d8_75 : decode jdk_33_method_47_code 75 = .ok (.iconst 1, 1) := by decide +kernel
theorem d8_76 : decode jdk_33_method_47_code 76 = .ok (.iushr, 1) := by decide +kernel
theorem d8_77 : decode jdk_33_method_47_code 77 = .ok (.isub, 1) := by decide +kernel
theorem d8_78 : decode jdk_33_method_47_code 78 = .ok (.ireturn, 1) := by decide +kernel
theorem pn_8 : plainFor (⟨"java/lang/Integer", "numberOfLeadingZeros", "(I)I"⟩ : MethodName) = true := plainFor_of_name (by first | (simp [plainName, overriddenIn]; done) | decide +kernel)
theorem pd_8 : parseMethodDescriptor "(I)I" = some ⟨[.int], some .int⟩ := by decide +kernel
theorem ef_8 (m : MethodId) (x0 : Int32) : entryFrame m #[(.int x0)] 2 = mkF m 0 #[.val (.int x0), .unset] [] := by first | (simp [entryFrame, mkF, argsToLocals, Value.category, maxLocals]; done) | rfl
def own_nlz_w1 (p1 : Int32) : Int32 := (if p1 < (4 : Int32) then p1 else (XT.ushr p1 (2 : Int32)))
def own_nlz_w2 (p1 : Int32) : Int32 := (if p1 < (4 : Int32) then (31 : Int32) else ((31 : Int32) + ((-2) : Int32)))
def own_nlz (p1 : Int32) : Int32 := ((own_nlz_w2 p1) - (XT.ushr (own_nlz_w1 p1) (1 : Int32)))
def Q8 (Z : State) (p1 : Int32)  (h0 : Heap) (n0 : Nat) (v : Option Value) (h : Heap) (L : List Loc) : Prop := v = some (.int (own_nlz p1)) ∧ Fr n0 L ∧ h = h0
set_option maxRecDepth 65536 in
set_option maxHeartbeats 40000000 in
theorem rm8 (l : Launch) (Z : State) (a0 : Array Value) (hw : ∀ d ∈ tables_1, d.before a0 Z = true) (ws : List Jvm.Cond) (p1 : Int32)  (h0 : Heap) (n0 : Nat) (Z0 : n0 ≤ h0.size) (hp3 : p1 = 3 ∨ p1 = 7) :
    MetFree l (⟨"java/lang/Integer", "numberOfLeadingZeros", "(I)I"⟩ : MethodName) (head1 (Jvm.Cond.code (⟨"java/lang/Integer", "numberOfLeadingZeros", "(I)I"⟩ : MethodName) jdk_33_method_47_code 2 (some .int) :: ws) ({ frames := 0, cells := 0, slots := 0, locals := 0 } : Room)) (fun a U => a = #[(.int p1)] ∧ Z.Warmed39 U.vm ∧ U.heap = h0) (fun _ _ _ _ _ => True) (fun _ U oc U' => ∃ v L, oc = .returned v ∧ Q8 Z p1  h0 n0 v U'.heap L ∧ FrameEnd U oc U' L ({ frames := 0, cells := 0, slots := 0, locals := 0 } : Room).cells ({ frames := 0, cells := 0, slots := 0, locals := 0 } : Room).slots) := by
  refine MetFree.of_bodySF pn_8 hisR ?_
  intro p e s m args below meth c s₁ Bd hml0 hP hK
  obtain ⟨rfl, hZ, hh⟩ := hP
  have hx := Bd.exec
  have hby := Bd.bytes
  have hlk := BodyLoose.notSynchronized Bd
  have hml : c.maxLocals = 2 := hml0
  have hown : s.vm.findClass "java/lang/Integer" = some m.cls := findClass_of_methodNamed Bd.named
  have hnm := (name_of_methodNamed Bd.named Bd.method).1
  have X0 : Stand p l e ({ frames := 0, cells := 0, slots := 0, locals := 0 } : Room) s m #[(.int p1)] below meth c s₁ [] 0 0 := Stand.of_body Bd
  have e0 : s₁.heap = h0 := by rw [← hh, Bd.state]; rfl
  have N0 := Fr.nil n0
  show OwnWp p e below s ({ frames := 0, cells := 0, slots := 0, locals := 0 } : Room).cells ({ frames := 0, cells := 0, slots := 0, locals := 0 } : Room).slots (Q8 Z p1  h0 n0) (s₁.setTop (entryFrame m #[(.int p1)] 2))
  refine OwnWp.cast (ef_8 m p1) ?_
  show OwnWp p e below s _ _ _ (s₁.setTop (mkF m 0 #[.val (.int p1), .unset] []))
  refine OwnWp.step (U' := s₁.setTop (mkF m 63 #[.val (.int p1), .val (.int (31 : Int32))] [(.int (4 : Int32)), (.int p1)])) (fun t k => ?_) ?_
  · show Steps p.tables e below (s₁.setTop (mkF m 0 #[.val (.int p1), .unset] [])) _
    refine XS.iloadN X0.here hx rfl (hb hby d8_0) rfl ?_
    show Steps p.tables e below (s₁.setTop (mkF m 1 #[.val (.int p1), .unset] [(.int p1)])) _
    refine XS.ifYes X0.here hx rfl (pc0 := 1) (pc' := 15) rfl (hb hby d8_1) rfl (XT.i0_gt_t (own_nl hp3).1) (by decide) (by decide) ?_
    show Steps p.tables e below (s₁.setTop (mkF m 15 #[.val (.int p1), .unset] [])) _
    refine XT.bipushV X0.here hx rfl (31 : Int32) (hb hby d8_15) rfl ?_
    show Steps p.tables e below (s₁.setTop (mkF m 17 #[.val (.int p1), .unset] [(.int (31 : Int32))])) _
    refine XS.istoreN X0.here hx rfl (hb hby d8_17) rfl (l' := #[.val (.int p1), .val (.int (31 : Int32))]) rfl ?_
    show Steps p.tables e below (s₁.setTop (mkF m 18 #[.val (.int p1), .val (.int (31 : Int32))] [])) _
    refine XS.iloadN X0.here hx rfl (hb hby d8_18) rfl ?_
    show Steps p.tables e below (s₁.setTop (mkF m 19 #[.val (.int p1), .val (.int (31 : Int32))] [(.int p1)])) _
    refine X0.ldcWI hx hown (mvT hZ (hw _ (List.mem_of_getElem? (i := 38) rfl))) rfl (hb hby d8_19) ?_
    show Steps p.tables e below (s₁.setTop (mkF m 22 #[.val (.int p1), .val (.int (31 : Int32))] [(.int (65536 : Int32)), (.int p1)])) _
    refine XS.icmpYes X0.here hx rfl (pc0 := 22) (pc' := 33) rfl (hb hby d8_22) rfl (XT.ii_lt_t (own_nl hp3).2.1) (by decide) (by decide) ?_
    show Steps p.tables e below (s₁.setTop (mkF m 33 #[.val (.int p1), .val (.int (31 : Int32))] [])) _
    refine XS.iloadN X0.here hx rfl (hb hby d8_33) rfl ?_
    show Steps p.tables e below (s₁.setTop (mkF m 34 #[.val (.int p1), .val (.int (31 : Int32))] [(.int p1)])) _
    refine XT.sipushV X0.here hx rfl (256 : Int32) (hb hby d8_34) rfl ?_
    show Steps p.tables e below (s₁.setTop (mkF m 37 #[.val (.int p1), .val (.int (31 : Int32))] [(.int (256 : Int32)), (.int p1)])) _
    refine XS.icmpYes X0.here hx rfl (pc0 := 37) (pc' := 48) rfl (hb hby d8_37) rfl (XT.ii_lt_t (own_nl hp3).2.2.1) (by decide) (by decide) ?_
    show Steps p.tables e below (s₁.setTop (mkF m 48 #[.val (.int p1), .val (.int (31 : Int32))] [])) _
    refine XS.iloadN X0.here hx rfl (hb hby d8_48) rfl ?_
    show Steps p.tables e below (s₁.setTop (mkF m 49 #[.val (.int p1), .val (.int (31 : Int32))] [(.int p1)])) _
    refine XT.bipushV X0.here hx rfl (16 : Int32) (hb hby d8_49) rfl ?_
    show Steps p.tables e below (s₁.setTop (mkF m 51 #[.val (.int p1), .val (.int (31 : Int32))] [(.int (16 : Int32)), (.int p1)])) _
    refine XS.icmpYes X0.here hx rfl (pc0 := 51) (pc' := 61) rfl (hb hby d8_51) rfl (XT.ii_lt_t (own_nl hp3).2.2.2) (by decide) (by decide) ?_
    show Steps p.tables e below (s₁.setTop (mkF m 61 #[.val (.int p1), .val (.int (31 : Int32))] [])) _
    refine XS.iloadN X0.here hx rfl (hb hby d8_61) rfl ?_
    show Steps p.tables e below (s₁.setTop (mkF m 62 #[.val (.int p1), .val (.int (31 : Int32))] [(.int p1)])) _
    refine XT.iconstV X0.here hx rfl (4 : Int32) (hb hby d8_62) rfl ?_
    show Steps p.tables e below (s₁.setTop (mkF m 63 #[.val (.int p1), .val (.int (31 : Int32))] [(.int (4 : Int32)), (.int p1)])) _
    exact k
  obtain ⟨w1, qw1⟩ : ∃ z : Int32, z = (if p1 < (4 : Int32) then p1 else (XT.ushr p1 (2 : Int32))) := ⟨_, rfl⟩
  obtain ⟨w2, qw2⟩ : ∃ z : Int32, z = (if p1 < (4 : Int32) then (31 : Int32) else ((31 : Int32) + ((-2) : Int32))) := ⟨_, rfl⟩
  refine OwnWp.step (U' := s₁.setTop (mkF m 73 #[.val (.int w1), .val (.int w2)] [])) (fun t k => ?_) ?_
  · show Steps p.tables e below (s₁.setTop (mkF m 63 #[.val (.int p1), .val (.int (31 : Int32))] [(.int (4 : Int32)), (.int p1)])) _
    by_cases c63_1 : p1 < (4 : Int32)
    · refine XS.icmpYes X0.here hx rfl (pc0 := 63) (pc' := 73) rfl (hb hby d8_63) rfl (XT.ii_lt_t c63_1) (by decide) (by decide) ?_
      show Steps p.tables e below (s₁.setTop (mkF m 73 #[.val (.int p1), .val (.int (31 : Int32))] [])) _
      rw [show w1 = p1 from by rw [qw1, if_pos c63_1]] at k
      rw [show w2 = (31 : Int32) from by rw [qw2, if_pos c63_1]] at k
      exact k
    · refine XS.icmpNo X0.here hx rfl (hb hby d8_63) rfl (XT.ii_lt_f c63_1) ?_
      show Steps p.tables e below (s₁.setTop (mkF m 66 #[.val (.int p1), .val (.int (31 : Int32))] [])) _
      refine XT.iincV X0.here hx rfl ((-2) : Int32) (hb hby d8_66) rfl rfl (l' := #[.val (.int p1), .val (.int ((31 : Int32) + ((-2) : Int32)))]) rfl ?_
      show Steps p.tables e below (s₁.setTop (mkF m 69 #[.val (.int p1), .val (.int ((31 : Int32) + ((-2) : Int32)))] [])) _
      refine XS.iloadN X0.here hx rfl (hb hby d8_69) rfl ?_
      show Steps p.tables e below (s₁.setTop (mkF m 70 #[.val (.int p1), .val (.int ((31 : Int32) + ((-2) : Int32)))] [(.int p1)])) _
      refine XT.iconstV X0.here hx rfl (2 : Int32) (hb hby d8_70) rfl ?_
      show Steps p.tables e below (s₁.setTop (mkF m 71 #[.val (.int p1), .val (.int ((31 : Int32) + ((-2) : Int32)))] [(.int (2 : Int32)), (.int p1)])) _
      refine XT.iushr X0.here hx rfl (hb hby d8_71) rfl ?_
      show Steps p.tables e below (s₁.setTop (mkF m 72 #[.val (.int p1), .val (.int ((31 : Int32) + ((-2) : Int32)))] [(.int (XT.ushr p1 (2 : Int32)))])) _
      refine XS.istoreN X0.here hx rfl (hb hby d8_72) rfl (l' := #[.val (.int (XT.ushr p1 (2 : Int32))), .val (.int ((31 : Int32) + ((-2) : Int32)))]) rfl ?_
      show Steps p.tables e below (s₁.setTop (mkF m 73 #[.val (.int (XT.ushr p1 (2 : Int32))), .val (.int ((31 : Int32) + ((-2) : Int32)))] [])) _
      rw [show w1 = (XT.ushr p1 (2 : Int32)) from by rw [qw1, if_neg c63_1]] at k
      rw [show w2 = ((31 : Int32) + ((-2) : Int32)) from by rw [qw2, if_neg c63_1]] at k
      exact k
  refine OwnWp.step (U' := s₁.setTop (mkF m 78 #[.val (.int w1), .val (.int w2)] [(.int (w2 - (XT.ushr w1 (1 : Int32))))])) (fun t k => ?_) ?_
  · show Steps p.tables e below (s₁.setTop (mkF m 73 #[.val (.int w1), .val (.int w2)] [])) _
    refine XS.iloadN X0.here hx rfl (hb hby d8_73) rfl ?_
    show Steps p.tables e below (s₁.setTop (mkF m 74 #[.val (.int w1), .val (.int w2)] [(.int w2)])) _
    refine XS.iloadN X0.here hx rfl (hb hby d8_74) rfl ?_
    show Steps p.tables e below (s₁.setTop (mkF m 75 #[.val (.int w1), .val (.int w2)] [(.int w1), (.int w2)])) _
    refine XT.iconstV X0.here hx rfl (1 : Int32) (hb hby d8_75) rfl ?_
    show Steps p.tables e below (s₁.setTop (mkF m 76 #[.val (.int w1), .val (.int w2)] [(.int (1 : Int32)), (.int w1), (.int w2)])) _
    refine XT.iushr X0.here hx rfl (hb hby d8_76) rfl ?_
    show Steps p.tables e below (s₁.setTop (mkF m 77 #[.val (.int w1), .val (.int w2)] [(.int (XT.ushr w1 (1 : Int32))), (.int w2)])) _
    refine XS.isub X0.here hx rfl (hb hby d8_77) rfl ?_
    show Steps p.tables e below (s₁.setTop (mkF m 78 #[.val (.int w1), .val (.int w2)] [(.int (w2 - (XT.ushr w1 (1 : Int32))))])) _
    exact k
  refine OwnWp.retI X0 hx hlk Bd.returns (hb hby d8_78) (by decide) (by decide) ?_
  refine ⟨?_, N0, e0⟩
  show some (Value.int (w2 - (XT.ushr w1 (1 : Int32)))) = some (.int (own_nlz p1))
  subst qw2
  subst qw1
  unfold own_nlz own_nlz_w2 own_nlz_w1
  rfl
theorem d7_0 : decode prog_19_method_2_code 0 = .ok (.iload_n 0, 1) := by decide +kernel
theorem d7_1 : decode prog_19_method_2_code 1 = .ok (.ldc 9, 2) := by decide +kernel
theorem d7_3 : decode prog_19_method_2_code 3 = .ok (.imul, 1) := by decide +kernel
theorem d7_4 : decode prog_19_method_2_code 4 = .ok (.iload_n 1, 1) := by decide +kernel
theorem d7_5 : decode prog_19_method_2_code 5 = .ok (.iconst 1, 1) := by decide +kernel
theorem d7_6 : decode prog_19_method_2_code 6 = .ok (.isub, 1) := by decide +kernel
theorem d7_7 : decode prog_19_method_2_code 7 = .ok (.invokestatic 10, 3) := by decide +kernel
theorem d7_10 : decode prog_19_method_2_code 10 = .ok (.iushr, 1) := by decide +kernel
theorem d7_11 : decode prog_19_method_2_code 11 = .ok (.ireturn, 1) := by decide +kernel
theorem pn_7 : plainFor (⟨"com/example/utu/utu/OpenAddressing", "home", "(II)I"⟩ : MethodName) = true := plainFor_of_name (by first | (simp [plainName, overriddenIn]; done) | decide +kernel)
theorem pd_7 : parseMethodDescriptor "(II)I" = some ⟨[.int, .int], some .int⟩ := by decide +kernel
theorem ef_7 (m : MethodId) (x0 : Int32) (x1 : Int32) : entryFrame m #[(.int x0), (.int x1)] 2 = mkF m 0 #[.val (.int x0), .val (.int x1)] [] := by first | (simp [entryFrame, mkF, argsToLocals, Value.category, maxLocals]; done) | rfl
def own_oh_w1 (p1 : Int32) (p2 : Int32) : Int32 := (p2 - (1 : Int32))
def own_oh (p1 : Int32) (p2 : Int32) : Int32 := (XT.ushr (p1 * ((-1640531527) : Int32)) (own_nlz (own_oh_w1 p1 p2)))
def Q7 (Z : State) (p1 : Int32) (p2 : Int32)  (h0 : Heap) (n0 : Nat) (v : Option Value) (h : Heap) (L : List Loc) : Prop := v = some (.int (own_oh p1 p2)) ∧ Fr n0 L ∧ h = h0
set_option maxRecDepth 65536 in
set_option maxHeartbeats 40000000 in
theorem rm7 (l : Launch) (Z : State) (a0 : Array Value) (hw : ∀ d ∈ tables_1, d.before a0 Z = true) (ws : List Jvm.Cond) (p1 : Int32) (p2 : Int32)  (h0 : Heap) (n0 : Nat) (Z0 : n0 ≤ h0.size) (hp2 : p2 = 4 ∨ p2 = 8) :
    MetFree l (⟨"com/example/utu/utu/OpenAddressing", "home", "(II)I"⟩ : MethodName) (head1 (Jvm.Cond.code (⟨"com/example/utu/utu/OpenAddressing", "home", "(II)I"⟩ : MethodName) prog_19_method_2_code 2 (some .int) :: ws) ({ frames := 1, cells := 0, slots := 0, locals := 14 } : Room)) (fun a U => a = #[(.int p1), (.int p2)] ∧ Z.Warmed39 U.vm ∧ U.heap = h0) (fun _ _ _ _ _ => True) (fun _ U oc U' => ∃ v L, oc = .returned v ∧ Q7 Z p1 p2  h0 n0 v U'.heap L ∧ FrameEnd U oc U' L ({ frames := 1, cells := 0, slots := 0, locals := 14 } : Room).cells ({ frames := 1, cells := 0, slots := 0, locals := 14 } : Room).slots) := by
  refine MetFree.of_bodySF pn_7 hisR ?_
  intro p e s m args below meth c s₁ Bd hml0 hP hK
  obtain ⟨rfl, hZ, hh⟩ := hP
  have hx := Bd.exec
  have hby := Bd.bytes
  have hlk := BodyLoose.notSynchronized Bd
  have hml : c.maxLocals = 2 := hml0
  have hown : s.vm.findClass "com/example/utu/utu/OpenAddressing" = some m.cls := findClass_of_methodNamed Bd.named
  have hnm := (name_of_methodNamed Bd.named Bd.method).1
  have X0 : Stand p l e ({ frames := 1, cells := 0, slots := 0, locals := 14 } : Room) s m #[(.int p1), (.int p2)] below meth c s₁ [] 0 0 := Stand.of_body Bd
  have e0 : s₁.heap = h0 := by rw [← hh, Bd.state]; rfl
  have N0 := Fr.nil n0
  show OwnWp p e below s ({ frames := 1, cells := 0, slots := 0, locals := 14 } : Room).cells ({ frames := 1, cells := 0, slots := 0, locals := 14 } : Room).slots (Q7 Z p1 p2  h0 n0) (s₁.setTop (entryFrame m #[(.int p1), (.int p2)] 2))
  refine OwnWp.cast (ef_7 m p1 p2) ?_
  show OwnWp p e below s _ _ _ (s₁.setTop (mkF m 0 #[.val (.int p1), .val (.int p2)] []))
  refine OwnWp.step (U' := s₁.setTop (mkF m 7 #[.val (.int p1), .val (.int p2)] [(.int (p2 - (1 : Int32))), (.int (p1 * ((-1640531527) : Int32)))])) (fun t k => ?_) ?_
  · show Steps p.tables e below (s₁.setTop (mkF m 0 #[.val (.int p1), .val (.int p2)] [])) _
    refine XS.iloadN X0.here hx rfl (hb hby d7_0) rfl ?_
    show Steps p.tables e below (s₁.setTop (mkF m 1 #[.val (.int p1), .val (.int p2)] [(.int p1)])) _
    refine X0.ldcI hx hown (mvT hZ (hw _ (List.mem_of_getElem? (i := 33) rfl))) rfl (hb hby d7_1) ?_
    show Steps p.tables e below (s₁.setTop (mkF m 3 #[.val (.int p1), .val (.int p2)] [(.int ((-1640531527) : Int32)), (.int p1)])) _
    refine XS.imul X0.here hx rfl (hb hby d7_3) rfl ?_
    show Steps p.tables e below (s₁.setTop (mkF m 4 #[.val (.int p1), .val (.int p2)] [(.int (p1 * ((-1640531527) : Int32)))])) _
    refine XS.iloadN X0.here hx rfl (hb hby d7_4) rfl ?_
    show Steps p.tables e below (s₁.setTop (mkF m 5 #[.val (.int p1), .val (.int p2)] [(.int p2), (.int (p1 * ((-1640531527) : Int32)))])) _
    refine XT.iconstV X0.here hx rfl (1 : Int32) (hb hby d7_5) rfl ?_
    show Steps p.tables e below (s₁.setTop (mkF m 6 #[.val (.int p1), .val (.int p2)] [(.int (1 : Int32)), (.int p2), (.int (p1 * ((-1640531527) : Int32)))])) _
    refine XS.isub X0.here hx rfl (hb hby d7_6) rfl ?_
    show Steps p.tables e below (s₁.setTop (mkF m 7 #[.val (.int p1), .val (.int p2)] [(.int (p2 - (1 : Int32))), (.int (p1 * ((-1640531527) : Int32)))])) _
    exact k
  obtain ⟨w1, qw1⟩ : ∃ z : Int32, z = (p2 - (1 : Int32)) := ⟨_, rfl⟩
  rw [← qw1]
  show OwnWp p e below s _ _ _ (s₁.setTop (mkF m 7 #[.val (.int p1), .val (.int p2)] [(.int w1), (.int (p1 * ((-1640531527) : Int32)))]))
  obtain ⟨_, _, ⟨T3, L3, k3, n3⟩, -, X3, ⟨Lc3, hQ3, l3, y3, z3⟩, st3⟩ := Jvm.LawKit.callS X0 hx (y := (⟨"java/lang/Integer", "numberOfLeadingZeros", "(I)I"⟩ : MethodName)) hown (mvT hZ (hw _ (List.mem_of_getElem? (i := 34) rfl))) (mvT hZ (hw _ (List.mem_of_getElem? (i := 35) rfl))) (mvT hZ (hw _ (List.mem_of_getElem? (i := 36) rfl))) (mvT hZ (hw _ (List.mem_of_getElem? (i := 37) rfl))) (by decide) (backOf (W := 1) (rm8 l Z a0 hw [] w1 h0 n0 Z0 (own_nl48 hp2 qw1)) hZ (hw _ (List.mem_of_getElem? (i := 37) rfl)) (hw _ (List.mem_of_getElem? (i := 36) rfl)) (by decide) (by decide)) (g := (mkF m 7 #[.val (.int p1), .val (.int p2)] [(.int w1), (.int (p1 * ((-1640531527) : Int32)))])) rfl (by rw [hml]; rfl) (argsL := [(.int w1)]) (rest := [(.int (p1 * ((-1640531527) : Int32)))]) (lenOf pd_8 rfl) rfl (by show 2 * 0 + _ ≤ _; exact Nat.le_of_eq rfl) (hb hby d7_7) (fun _ _ => ⟨rfl, e0, (by dsimp only [Pt.cells]; decide), (by dsimp only [Pt.slots]; decide)⟩)
  dsimp only [Pt.U, Pt.locs, Pt.cells, Pt.slots] at X3 l3 y3 z3 st3 hQ3
  subst l3 y3 z3
  obtain ⟨rfl, Nc3, hp3⟩ := hQ3
  have N3 := Fr.app N0 Nc3
  refine OwnWp.step st3 ?_
  have eh3 : T3.heap = h0 := hp3
  show OwnWp p e below s _ _ _ (T3.setTop (mkF m 10 #[.val (.int p1), .val (.int p2)] [(.int (own_nlz w1)), (.int (p1 * ((-1640531527) : Int32)))]))
  refine OwnWp.step (U' := T3.setTop (mkF m 11 #[.val (.int p1), .val (.int p2)] [(.int (XT.ushr (p1 * ((-1640531527) : Int32)) (own_nlz w1)))])) (fun t k => ?_) ?_
  · show Steps p.tables e below (T3.setTop (mkF m 10 #[.val (.int p1), .val (.int p2)] [(.int (own_nlz w1)), (.int (p1 * ((-1640531527) : Int32)))])) _
    refine XT.iushr X3.here hx rfl (hb hby d7_10) rfl ?_
    show Steps p.tables e below (T3.setTop (mkF m 11 #[.val (.int p1), .val (.int p2)] [(.int (XT.ushr (p1 * ((-1640531527) : Int32)) (own_nlz w1)))])) _
    exact k
  refine OwnWp.retI X3 hx hlk Bd.returns (hb hby d7_11) (by decide) (by decide) ?_
  refine ⟨?_, N3, eh3⟩
  show some (Value.int (XT.ushr (p1 * ((-1640531527) : Int32)) (own_nlz w1))) = some (.int (own_oh p1 p2))
  subst qw1
  unfold own_oh own_oh_w1
  rfl
theorem d16_0 : decode prog_19_method_5_code 0 = .ok (.iload_n 0, 1) := by decide +kernel
theorem d16_1 : decode prog_19_method_5_code 1 = .ok (.iconst 1, 1) := by decide +kernel
theorem d16_2 : decode prog_19_method_5_code 2 = .ok (.iadd, 1) := by decide +kernel
theorem d16_3 : decode prog_19_method_5_code 3 = .ok (.iload_n 1, 1) := by decide +kernel
theorem d16_4 : decode prog_19_method_5_code 4 = .ok (.iconst 1, 1) := by decide +kernel
theorem d16_5 : decode prog_19_method_5_code 5 = .ok (.isub, 1) := by decide +kernel
theorem d16_6 : decode prog_19_method_5_code 6 = .ok (.iand, 1) := by decide +kernel
theorem d16_7 : decode prog_19_method_5_code 7 = .ok (.ireturn, 1) := by decide +kernel
theorem pn_16 : plainFor (⟨"com/example/utu/utu/OpenAddressing", "next", "(II)I"⟩ : MethodName) = true := plainFor_of_name (by first | (simp [plainName, overriddenIn]; done) | decide +kernel)
theorem pd_16 : parseMethodDescriptor "(II)I" = some ⟨[.int, .int], some .int⟩ := by decide +kernel
theorem ef_16 (m : MethodId) (x0 : Int32) (x1 : Int32) : entryFrame m #[(.int x0), (.int x1)] 2 = mkF m 0 #[.val (.int x0), .val (.int x1)] [] := by first | (simp [entryFrame, mkF, argsToLocals, Value.category, maxLocals]; done) | rfl
def own_nxt (p1 : Int32) (p2 : Int32) : Int32 := ((p1 + (1 : Int32)) &&& (p2 - (1 : Int32)))
def Q16 (Z : State) (p1 : Int32) (p2 : Int32)  (h0 : Heap) (n0 : Nat) (v : Option Value) (h : Heap) (L : List Loc) : Prop := v = some (.int (own_nxt p1 p2)) ∧ Fr n0 L ∧ h = h0
set_option maxRecDepth 65536 in
set_option maxHeartbeats 40000000 in
theorem rm16 (l : Launch) (Z : State) (a0 : Array Value) (hw : ∀ d ∈ tables_1, d.before a0 Z = true) (ws : List Jvm.Cond) (p1 : Int32) (p2 : Int32)  (h0 : Heap) (n0 : Nat) (Z0 : n0 ≤ h0.size)  :
    MetFree l (⟨"com/example/utu/utu/OpenAddressing", "next", "(II)I"⟩ : MethodName) (head1 (Jvm.Cond.code (⟨"com/example/utu/utu/OpenAddressing", "next", "(II)I"⟩ : MethodName) prog_19_method_5_code 2 (some .int) :: ws) ({ frames := 0, cells := 0, slots := 0, locals := 0 } : Room)) (fun a U => a = #[(.int p1), (.int p2)] ∧ Z.Warmed39 U.vm ∧ U.heap = h0) (fun _ _ _ _ _ => True) (fun _ U oc U' => ∃ v L, oc = .returned v ∧ Q16 Z p1 p2  h0 n0 v U'.heap L ∧ FrameEnd U oc U' L ({ frames := 0, cells := 0, slots := 0, locals := 0 } : Room).cells ({ frames := 0, cells := 0, slots := 0, locals := 0 } : Room).slots) := by
  refine MetFree.of_bodySF pn_16 hisR ?_
  intro p e s m args below meth c s₁ Bd hml0 hP hK
  obtain ⟨rfl, hZ, hh⟩ := hP
  have hx := Bd.exec
  have hby := Bd.bytes
  have hlk := BodyLoose.notSynchronized Bd
  have hml : c.maxLocals = 2 := hml0
  have hown : s.vm.findClass "com/example/utu/utu/OpenAddressing" = some m.cls := findClass_of_methodNamed Bd.named
  have hnm := (name_of_methodNamed Bd.named Bd.method).1
  have X0 : Stand p l e ({ frames := 0, cells := 0, slots := 0, locals := 0 } : Room) s m #[(.int p1), (.int p2)] below meth c s₁ [] 0 0 := Stand.of_body Bd
  have e0 : s₁.heap = h0 := by rw [← hh, Bd.state]; rfl
  have N0 := Fr.nil n0
  show OwnWp p e below s ({ frames := 0, cells := 0, slots := 0, locals := 0 } : Room).cells ({ frames := 0, cells := 0, slots := 0, locals := 0 } : Room).slots (Q16 Z p1 p2  h0 n0) (s₁.setTop (entryFrame m #[(.int p1), (.int p2)] 2))
  refine OwnWp.cast (ef_16 m p1 p2) ?_
  show OwnWp p e below s _ _ _ (s₁.setTop (mkF m 0 #[.val (.int p1), .val (.int p2)] []))
  refine OwnWp.step (U' := s₁.setTop (mkF m 7 #[.val (.int p1), .val (.int p2)] [(.int ((p1 + (1 : Int32)) &&& (p2 - (1 : Int32))))])) (fun t k => ?_) ?_
  · show Steps p.tables e below (s₁.setTop (mkF m 0 #[.val (.int p1), .val (.int p2)] [])) _
    refine XS.iloadN X0.here hx rfl (hb hby d16_0) rfl ?_
    show Steps p.tables e below (s₁.setTop (mkF m 1 #[.val (.int p1), .val (.int p2)] [(.int p1)])) _
    refine XT.iconstV X0.here hx rfl (1 : Int32) (hb hby d16_1) rfl ?_
    show Steps p.tables e below (s₁.setTop (mkF m 2 #[.val (.int p1), .val (.int p2)] [(.int (1 : Int32)), (.int p1)])) _
    refine XS.iadd X0.here hx rfl (hb hby d16_2) rfl ?_
    show Steps p.tables e below (s₁.setTop (mkF m 3 #[.val (.int p1), .val (.int p2)] [(.int (p1 + (1 : Int32)))])) _
    refine XS.iloadN X0.here hx rfl (hb hby d16_3) rfl ?_
    show Steps p.tables e below (s₁.setTop (mkF m 4 #[.val (.int p1), .val (.int p2)] [(.int p2), (.int (p1 + (1 : Int32)))])) _
    refine XT.iconstV X0.here hx rfl (1 : Int32) (hb hby d16_4) rfl ?_
    show Steps p.tables e below (s₁.setTop (mkF m 5 #[.val (.int p1), .val (.int p2)] [(.int (1 : Int32)), (.int p2), (.int (p1 + (1 : Int32)))])) _
    refine XS.isub X0.here hx rfl (hb hby d16_5) rfl ?_
    show Steps p.tables e below (s₁.setTop (mkF m 6 #[.val (.int p1), .val (.int p2)] [(.int (p2 - (1 : Int32))), (.int (p1 + (1 : Int32)))])) _
    refine XS.iand X0.here hx rfl (hb hby d16_6) rfl ?_
    show Steps p.tables e below (s₁.setTop (mkF m 7 #[.val (.int p1), .val (.int p2)] [(.int ((p1 + (1 : Int32)) &&& (p2 - (1 : Int32))))])) _
    exact k
  refine OwnWp.retI X0 hx hlk Bd.returns (hb hby d16_7) (by decide) (by decide) ?_
  refine ⟨?_, N0, e0⟩
  show some (Value.int ((p1 + (1 : Int32)) &&& (p2 - (1 : Int32)))) = some (.int (own_nxt p1 p2))
  unfold own_nxt
  rfl
theorem d1_0 : decode method_2_code 0 = .ok (.iload_n 0, 1) := by decide +kernel
theorem d1_1 : decode method_2_code 1 = .ok (.ldc 7, 2) := by decide +kernel
theorem d1_3 : decode method_2_code 3 = .ok (.iand, 1) := by decide +kernel
theorem d1_4 : decode method_2_code 4 = .ok (.istore_n 1, 1) := by decide +kernel
theorem d1_5 : decode method_2_code 5 = .ok (.iload_n 1, 1) := by decide +kernel
theorem d1_6 : decode method_2_code 6 = .ok (.ifCond .ne 7, 3) := by decide +kernel
theorem d1_9 : decode method_2_code 9 = .ok (.iconst 1, 1) := by decide +kernel
theorem d1_10 : decode method_2_code 10 = .ok (.goto 4, 3) := by decide +kernel
theorem d1_13 : decode method_2_code 13 = .ok (.iload_n 1, 1) := by decide +kernel
theorem d1_14 : decode method_2_code 14 = .ok (.ireturn, 1) := by decide +kernel
theorem pn_1 : plainFor (⟨"com/example/utu/utu/SlotNumbersToArrayPinLaw", "pos", "(I)I"⟩ : MethodName) = true := plainFor_of_name (by first | (simp [plainName, overriddenIn]; done) | decide +kernel)
theorem pd_1 : parseMethodDescriptor "(I)I" = some ⟨[.int], some .int⟩ := by decide +kernel
theorem ef_1 (m : MethodId) (x0 : Int32) : entryFrame m #[(.int x0)] 2 = mkF m 0 #[.val (.int x0), .unset] [] := by first | (simp [entryFrame, mkF, argsToLocals, Value.category, maxLocals]; done) | rfl
def own_pos_w1 (p1 : Int32) : Int32 := (p1 &&& (2147483647 : Int32))
def own_pos_w2 (p1 : Int32) : Int32 := (if (own_pos_w1 p1) = (0 : Int32) then (1 : Int32) else (own_pos_w1 p1))
def own_pos (p1 : Int32) : Int32 := (own_pos_w2 p1)
def Q1 (Z : State) (p1 : Int32)  (h0 : Heap) (n0 : Nat) (v : Option Value) (h : Heap) (L : List Loc) : Prop := v = some (.int (own_pos p1)) ∧ Fr n0 L ∧ h = h0
set_option maxRecDepth 65536 in
set_option maxHeartbeats 40000000 in
theorem rm1 (l : Launch) (Z : State) (a0 : Array Value) (hw : ∀ d ∈ tables_1, d.before a0 Z = true) (ws : List Jvm.Cond) (p1 : Int32)  (h0 : Heap) (n0 : Nat) (Z0 : n0 ≤ h0.size)  :
    MetFree l (⟨"com/example/utu/utu/SlotNumbersToArrayPinLaw", "pos", "(I)I"⟩ : MethodName) (head1 (Jvm.Cond.code (⟨"com/example/utu/utu/SlotNumbersToArrayPinLaw", "pos", "(I)I"⟩ : MethodName) method_2_code 2 (some .int) :: ws) ({ frames := 0, cells := 0, slots := 0, locals := 0 } : Room)) (fun a U => a = #[(.int p1)] ∧ Z.Warmed39 U.vm ∧ U.heap = h0) (fun _ _ _ _ _ => True) (fun _ U oc U' => ∃ v L, oc = .returned v ∧ Q1 Z p1  h0 n0 v U'.heap L ∧ FrameEnd U oc U' L ({ frames := 0, cells := 0, slots := 0, locals := 0 } : Room).cells ({ frames := 0, cells := 0, slots := 0, locals := 0 } : Room).slots) := by
  refine MetFree.of_bodySF pn_1 hisR ?_
  intro p e s m args below meth c s₁ Bd hml0 hP hK
  obtain ⟨rfl, hZ, hh⟩ := hP
  have hx := Bd.exec
  have hby := Bd.bytes
  have hlk := BodyLoose.notSynchronized Bd
  have hml : c.maxLocals = 2 := hml0
  have hown : s.vm.findClass "com/example/utu/utu/SlotNumbersToArrayPinLaw" = some m.cls := findClass_of_methodNamed Bd.named
  have hnm := (name_of_methodNamed Bd.named Bd.method).1
  have X0 : Stand p l e ({ frames := 0, cells := 0, slots := 0, locals := 0 } : Room) s m #[(.int p1)] below meth c s₁ [] 0 0 := Stand.of_body Bd
  have e0 : s₁.heap = h0 := by rw [← hh, Bd.state]; rfl
  have N0 := Fr.nil n0
  show OwnWp p e below s ({ frames := 0, cells := 0, slots := 0, locals := 0 } : Room).cells ({ frames := 0, cells := 0, slots := 0, locals := 0 } : Room).slots (Q1 Z p1  h0 n0) (s₁.setTop (entryFrame m #[(.int p1)] 2))
  refine OwnWp.cast (ef_1 m p1) ?_
  show OwnWp p e below s _ _ _ (s₁.setTop (mkF m 0 #[.val (.int p1), .unset] []))
  obtain ⟨w1, qw1⟩ : ∃ z : Int32, z = (p1 &&& (2147483647 : Int32)) := ⟨_, rfl⟩
  refine OwnWp.step (U' := s₁.setTop (mkF m 5 #[.val (.int p1), .val (.int w1)] [])) (fun t k => ?_) ?_
  · show Steps p.tables e below (s₁.setTop (mkF m 0 #[.val (.int p1), .unset] [])) _
    refine XS.iloadN X0.here hx rfl (hb hby d1_0) rfl ?_
    show Steps p.tables e below (s₁.setTop (mkF m 1 #[.val (.int p1), .unset] [(.int p1)])) _
    refine X0.ldcI hx hown (mvT hZ (hw _ (List.mem_of_getElem? (i := 4) rfl))) rfl (hb hby d1_1) ?_
    show Steps p.tables e below (s₁.setTop (mkF m 3 #[.val (.int p1), .unset] [(.int (2147483647 : Int32)), (.int p1)])) _
    refine XS.iand X0.here hx rfl (hb hby d1_3) rfl ?_
    show Steps p.tables e below (s₁.setTop (mkF m 4 #[.val (.int p1), .unset] [(.int (p1 &&& (2147483647 : Int32)))])) _
    refine XS.istoreN X0.here hx rfl (hb hby d1_4) rfl (l' := #[.val (.int p1), .val (.int (p1 &&& (2147483647 : Int32)))]) rfl ?_
    show Steps p.tables e below (s₁.setTop (mkF m 5 #[.val (.int p1), .val (.int (p1 &&& (2147483647 : Int32)))] [])) _
    rw [qw1] at k
    exact k
  refine OwnWp.step (U' := s₁.setTop (mkF m 6 #[.val (.int p1), .val (.int w1)] [(.int w1)])) (fun t k => ?_) ?_
  · show Steps p.tables e below (s₁.setTop (mkF m 5 #[.val (.int p1), .val (.int w1)] [])) _
    refine XS.iloadN X0.here hx rfl (hb hby d1_5) rfl ?_
    show Steps p.tables e below (s₁.setTop (mkF m 6 #[.val (.int p1), .val (.int w1)] [(.int w1)])) _
    exact k
  obtain ⟨w2, qw2⟩ : ∃ z : Int32, z = (if w1 = (0 : Int32) then (1 : Int32) else w1) := ⟨_, rfl⟩
  refine OwnWp.step (U' := s₁.setTop (mkF m 14 #[.val (.int p1), .val (.int w1)] [(.int w2)])) (fun t k => ?_) ?_
  · show Steps p.tables e below (s₁.setTop (mkF m 6 #[.val (.int p1), .val (.int w1)] [(.int w1)])) _
    by_cases c6_4 : w1 = (0 : Int32)
    · refine XS.ifNo X0.here hx rfl (hb hby d1_6) rfl (XT.i0_ne_f c6_4) ?_
      show Steps p.tables e below (s₁.setTop (mkF m 9 #[.val (.int p1), .val (.int w1)] [])) _
      refine XT.iconstV X0.here hx rfl (1 : Int32) (hb hby d1_9) rfl ?_
      show Steps p.tables e below (s₁.setTop (mkF m 10 #[.val (.int p1), .val (.int w1)] [(.int (1 : Int32))])) _
      refine XS.goto X0.here hx rfl (pc0 := 10) (pc' := 14) rfl (hb hby d1_10) (by decide) (by decide) ?_
      show Steps p.tables e below (s₁.setTop (mkF m 14 #[.val (.int p1), .val (.int w1)] [(.int (1 : Int32))])) _
      rw [show w2 = (1 : Int32) from by rw [qw2, if_pos c6_4]] at k
      exact k
    · refine XS.ifYes X0.here hx rfl (pc0 := 6) (pc' := 13) rfl (hb hby d1_6) rfl (XT.i0_ne_t c6_4) (by decide) (by decide) ?_
      show Steps p.tables e below (s₁.setTop (mkF m 13 #[.val (.int p1), .val (.int w1)] [])) _
      refine XS.iloadN X0.here hx rfl (hb hby d1_13) rfl ?_
      show Steps p.tables e below (s₁.setTop (mkF m 14 #[.val (.int p1), .val (.int w1)] [(.int w1)])) _
      rw [show w2 = w1 from by rw [qw2, if_neg c6_4]] at k
      exact k
  refine OwnWp.retI X0 hx hlk Bd.returns (hb hby d1_14) (by decide) (by decide) ?_
  refine ⟨?_, N0, e0⟩
  show some (Value.int w2) = some (.int (own_pos p1))
  subst qw2
  subst qw1
  unfold own_pos own_pos_w2 own_pos_w1
  rfl
theorem own_len_cases {nn : Int32} (hn : own_len nn.toInt) : nn = 4 ∨ nn = 8 := by
  rcases hn with h | h
  · exact Or.inl (Int32.toInt_inj.mp h)
  · exact Or.inr (Int32.toInt_inj.mp h)
theorem own_n64 {nn : Int32} (hn : own_len nn.toInt) : nn < (64 : Int32) := by
  rcases own_len_cases hn with rfl | rfl <;> decide
theorem own_oh_hm {nn : Int32} (hn : own_len nn.toInt) {x : Int32} : (own_oh x nn).toInt = own_hm nn.toInt x := by
  have n3 : own_nlz 3 = 30 := by decide +kernel
  have n7 : own_nlz 7 = 29 := by decide +kernel
  rcases own_len_cases hn with rfl | rfl
  · unfold own_oh own_oh_w1 own_hm
    rw [if_pos (by decide), show (4 : Int32) - 1 = 3 from by decide, n3]
  · unfold own_oh own_oh_w1 own_hm
    rw [if_neg (by decide), show (8 : Int32) - 1 = 7 from by decide, n7]
theorem own_nxt_at {nn : Int32} (hn : own_len nn.toInt) {x i : Int32} {q : Nat} (hi : i.toInt = own_at nn.toInt x q) (i2 : Int32) (q2 : i2 = own_nxt i nn) : i2.toInt = own_at nn.toInt x (q + 1) := by
  have r := own_at_rng hn x q
  rw [own_at_next hn, ← hi]
  rw [← hi] at r
  have a := c_iadd i 1
  rw [show (1 : Int32).toInt = 1 from rfl] at a
  have b := rng32 (i + 1)
  rw [q2]; unfold own_nxt
  rcases own_len_cases hn with rfl | rfl
  · rw [show (4 : Int32).toInt = 4 from rfl] at *
    have m := c_mask (i + 1) ((4 : Int32) - 1) 2 (by decide) (by decide)
    rw [m]; omega
  · rw [show (8 : Int32).toInt = 8 from rfl] at *
    have m := c_mask (i + 1) ((8 : Int32) - 1) 3 (by decide) (by decide)
    rw [m]; omega
theorem own_room {f g : Int → Int32} {i : Int} (hC : own_cnt g 8 = own_cnt f i.toNat) (hi : i ≤ 4) : own_cnt g 8 < 8 := by
  have := own_cnt_le (f := f) i.toNat
  omega
theorem own_grown_mem {f g : Int → Int32} {i : Int} (hi : i = 4) (hM : ∀ y : Int32, y ≠ 0 → (own_mem 8 g y ↔ ∃ j : Int, 0 ≤ j ∧ j < i ∧ f j = y)) (y : Int32) (hy : y ≠ 0) : own_mem 8 g y ↔ own_mem 4 f y := by
  rw [hM y hy, hi]; rfl
theorem own_grow_start (f : Int → Int32) (y : Int32) (hy : y ≠ 0) : own_mem 8 (fun _ => (0 : Int32)) y ↔ ∃ j : Int, 0 ≤ j ∧ j < (0 : Int32).toInt ∧ f j = y := by
  constructor
  · rintro ⟨i, _, _, h⟩; exact absurd h.symm hy
  · rintro ⟨j, h1, h2, _⟩
    rw [show (0 : Int32).toInt = 0 from rfl] at h2
    omega
theorem own_inc {i i2 : Int32} {k : Nat} (hi : i.toInt + ((k + 1 : Nat) : Int) = 4) (hi0 : 0 ≤ i.toInt) (q2 : i2 = i + (1 : Int32)) : i2.toInt = i.toInt + 1 := by
  have a := c_iadd i 1
  rw [← q2, show (1 : Int32).toInt = 1 from rfl] at a
  have b := rng32 i2
  omega
theorem own_grow0 {f g : Int → Int32} {i : Int32} {k : Nat} (hi : i.toInt + ((k + 1 : Nat) : Int) = 4) (hi0 : 0 ≤ i.toInt) (hM : ∀ y : Int32, y ≠ 0 → (own_mem 8 g y ↔ ∃ j : Int, 0 ≤ j ∧ j < i.toInt ∧ f j = y)) (hC : own_cnt g 8 = own_cnt f i.toInt.toNat) (i2 : Int32) (hz : f i.toInt = 0) (q2 : i2 = i + (1 : Int32)) :
    i2.toInt + (k : Int) = 4 ∧ 0 ≤ i2.toInt ∧ (∀ y : Int32, y ≠ 0 → (own_mem 8 g y ↔ ∃ j : Int, 0 ≤ j ∧ j < i2.toInt ∧ f j = y)) ∧ own_cnt g 8 = own_cnt f i2.toInt.toNat := by
  have e := own_inc hi hi0 q2
  refine ⟨by omega, by omega, fun y hy => ?_, ?_⟩
  · rw [hM y hy, e]
    constructor
    · rintro ⟨j, h1, h2, h3⟩; exact ⟨j, h1, by omega, h3⟩
    · rintro ⟨j, h1, h2, h3⟩
      have : j ≠ i.toInt := fun q => by rw [q, hz] at h3; exact hy h3.symm
      exact ⟨j, h1, by omega, h3⟩
  · rw [hC, e, show (i.toInt + 1).toNat = i.toInt.toNat + 1 from by omega]
    show _ = own_cnt f i.toInt.toNat + (if f (i.toInt.toNat : Int) = 0 then 0 else 1)
    rw [show ((i.toInt.toNat : Nat) : Int) = i.toInt from by omega, if_pos hz]; rfl
theorem own_grow1 {f g : Int → Int32} {i : Int32} {k : Nat} {r : Int} (hT : own_inj 4 f) (hi : i.toInt + ((k + 1 : Nat) : Int) = 4) (hi0 : 0 ≤ i.toInt) (hG : own_tab 8 g) (hM : ∀ y : Int32, y ≠ 0 → (own_mem 8 g y ↔ ∃ j : Int, 0 ≤ j ∧ j < i.toInt ∧ f j = y)) (hC : own_cnt g 8 = own_cnt f i.toInt.toNat) (i2 : Int32) (hz : f i.toInt ≠ 0) (hr : own_found 8 g (f i.toInt) r) (q2 : i2 = i + (1 : Int32)) :
    i2.toInt + (k : Int) = 4 ∧ 0 ≤ i2.toInt ∧ own_tab 8 (ownUpd g r (f i.toInt)) ∧ (∀ y : Int32, y ≠ 0 → (own_mem 8 (ownUpd g r (f i.toInt)) y ↔ ∃ j : Int, 0 ≤ j ∧ j < i2.toInt ∧ f j = y)) ∧ own_cnt (ownUpd g r (f i.toInt)) 8 = own_cnt f i2.toInt.toNat := by
  have e := own_inc hi hi0 q2
  have hn : own_len 8 := Or.inr rfl
  have hnm : ¬ own_mem 8 g (f i.toInt) := fun m => by
    obtain ⟨j, h1, h2, h3⟩ := (hM _ hz).mp m
    have := hT j i.toInt h1 (by omega) hi0 (by omega) h3 (by rw [h3]; exact hz)
    omega
  have h0 := own_found_not hn hr hnm
  have rr := own_found_rng hn hr
  refine ⟨by omega, by omega, own_put_tab hn hG hz hr h0, fun y hy => ?_, ?_⟩
  · rw [own_put_mem rr h0 hy, hM y hy, e]
    constructor
    · rintro (⟨j, h1, h2, h3⟩ | h)
      · exact ⟨j, h1, by omega, h3⟩
      · exact ⟨i.toInt, hi0, by omega, h.symm⟩
    · rintro ⟨j, h1, h2, h3⟩
      by_cases q : j = i.toInt
      · exact Or.inr (by rw [← h3, q])
      · exact Or.inl ⟨j, h1, by omega, h3⟩
  · rw [own_cnt_put hz h0 rr.1 8 rr.2, hC, e, show (i.toInt + 1).toNat = i.toInt.toNat + 1 from by omega]
    show _ = own_cnt f i.toInt.toNat + (if f (i.toInt.toNat : Int) = 0 then 0 else 1)
    rw [show ((i.toInt.toNat : Nat) : Int) = i.toInt from by omega, if_neg hz]
def own_inv (nn : Int32) (f : Int → Int32) (s : Int32) : Prop := own_len nn.toInt ∧ own_tab nn.toInt f ∧ s.toInt = ((own_cnt f nn.toInt.toNat : Nat) : Int) ∧ 2 * s.toInt ≤ nn.toInt
theorem own_len_pos {n : Int} (hn : own_len n) : 4 ≤ n ∧ n ≤ 8 := by rcases hn with rfl | rfl <;> omega
theorem own_invfree {nn : Int32} {f : Int → Int32} {s : Int32} (hI : own_inv nn f s) (hs : s.toInt ≤ 3) : ∃ z : Int, 0 ≤ z ∧ z < nn.toInt ∧ f z = 0 := by
  obtain ⟨h1, h2, h3, h4⟩ := hI
  have := own_len_pos h1
  obtain ⟨i, i1, i2, i3⟩ := own_free (f := f) nn.toInt.toNat (by omega)
  exact ⟨i, i1, by omega, i3⟩
theorem own_add_same {nn : Int32} {f : Int → Int32} {x : Int32} {d : Int} (hn : own_len nn.toInt) (hd : own_found nn.toInt f x d) (c : ¬ f d = 0) (y : Int32) (hy : y ≠ 0) : own_mem nn.toInt f y ↔ (own_mem nn.toInt f y ∨ y = x) := by
  constructor
  · exact Or.inl
  · rintro (h | rfl)
    · exact h
    · exact own_mem_of hn hd c
theorem own_s1 {s : Int32} (h1 : 0 ≤ s.toInt) (h2 : s.toInt ≤ 100) : (s + (1 : Int32)).toInt = s.toInt + 1 ∧ ((2 : Int32) * (s + (1 : Int32))).toInt = 2 * (s.toInt + 1) := by
  have a := c_iadd s 1
  rw [show (1 : Int32).toInt = 1 from rfl] at a
  have b := rng32 (s + 1)
  have c := c_imul 2 (s + 1)
  rw [show (2 : Int32).toInt = 2 from rfl] at c
  have d := rng32 (2 * (s + 1))
  omega
theorem own_is4 {nn : Int32} {f : Int → Int32} {s : Int32} (hI : own_inv nn f s) (hs : s.toInt ≤ 3) (c : nn < (2 : Int32) * (s + (1 : Int32))) : nn = 4 := by
  obtain ⟨h1, h2, h3, h4⟩ := hI
  have a := own_s1 (s := s) (by omega) (by omega)
  rw [Int32.lt_iff_toInt_lt, a.2] at c
  rcases own_len_cases h1 with h | h
  · exact h
  · rw [h, show (8 : Int32).toInt = 8 from rfl] at c; omega
theorem own_add_new {nn : Int32} {f : Int → Int32} {s x d : Int32} (hI : own_inv nn f s) (hs : s.toInt ≤ 3) (hx : x ≠ 0) (hd : own_found nn.toInt f x d.toInt) (c : f d.toInt = 0) (c2 : ¬ nn < (2 : Int32) * (s + (1 : Int32))) :
    own_inv nn (ownUpd f d.toInt x) (s + (1 : Int32)) ∧ (s + (1 : Int32)).toInt ≤ s.toInt + 1 ∧ ∀ y : Int32, y ≠ 0 → (own_mem nn.toInt (ownUpd f d.toInt x) y ↔ (own_mem nn.toInt f y ∨ y = x)) := by
  obtain ⟨h1, h2, h3, h4⟩ := hI
  have a := own_s1 (s := s) (by omega) (by omega)
  have rr := own_found_rng h1 hd
  rw [Int32.lt_iff_toInt_lt, a.2] at c2
  have b := own_cnt_put (f := f) hx c rr.1 nn.toInt.toNat (by omega)
  exact ⟨⟨h1, own_put_tab h1 h2 hx hd c, by rw [a.1, h3, b]; omega, by omega⟩, by omega, fun y hy => own_put_mem rr c hy⟩
theorem own_add_grow {f g : Int → Int32} {s x d d2 : Int32} (hI : own_inv 4 f s) (hs : s.toInt ≤ 3) (hx : x ≠ 0) (hd : own_found (4 : Int32).toInt f x d.toInt) (c : f d.toInt = 0) (c2 : (4 : Int32) < (2 : Int32) * (s + (1 : Int32)))
    (ht : own_tab 8 g) (hm : ∀ y : Int32, y ≠ 0 → (own_mem 8 g y ↔ own_mem 4 f y)) (hc : own_cnt g 8 = own_cnt f 4) (hd2 : own_found (8 : Int32).toInt g x d2.toInt) :
    own_inv (8 : Int32) (ownUpd g d2.toInt x) (s + (1 : Int32)) ∧ (s + (1 : Int32)).toInt ≤ s.toInt + 1 ∧ ∀ y : Int32, y ≠ 0 → (own_mem (8 : Int32).toInt (ownUpd g d2.toInt x) y ↔ (own_mem (4 : Int32).toInt f y ∨ y = x)) := by
  obtain ⟨h1, h2, h3, h4⟩ := hI
  have e8 : (8 : Int32).toInt = 8 := rfl
  have e4 : (4 : Int32).toInt = 4 := rfl
  rw [e8] at hd2
  rw [e4] at hd h1 h2 h3 h4
  have hn : own_len 8 := Or.inr rfl
  have hnm : ¬ own_mem 8 g x := fun m => own_not_of h2 hx hd c ((hm x hx).mp m)
  have h0 := own_found_not hn hd2 hnm
  have rr := own_found_rng hn hd2
  have a := own_s1 (s := s) (by omega) (by omega)
  have b := own_cnt_put (f := g) hx h0 rr.1 8 rr.2
  have cc := own_cnt_le (f := f) 4
  have h3' : s.toInt = ((own_cnt f 4 : Nat) : Int) := h3
  refine ⟨⟨by rw [e8]; exact hn, by rw [e8]; exact own_put_tab hn ht hx hd2 h0, ?_, by rw [e8]; omega⟩, by omega, fun y hy => ?_⟩
  · show _ = ((own_cnt _ 8 : Nat) : Int)
    rw [a.1, b, hc]; omega
  · rw [e8, e4, own_put_mem rr h0 hy, hm y hy]
theorem own_inv0 : own_inv (4 : Int32) (fun _ => (0 : Int32)) (0 : Int32) := ⟨Or.inl rfl, own_zero_tab _, by rw [own_zero_cnt]; rfl, by decide⟩
theorem own_two (y p q : Int32) (hy : y ≠ 0) : ((own_mem (4 : Int32).toInt (fun _ => (0 : Int32)) y ∨ y = p) ∨ y = q) ↔ (y = p ∨ y = q) := by
  constructor
  · rintro ((⟨i, _, _, h⟩ | h) | h)
    · exact absurd h.symm hy
    · exact Or.inl h
    · exact Or.inr h
  · rintro (h | h)
    · exact Or.inl (Or.inr h)
    · exact Or.inr h
def own_b (x : Int32) : Int32 := if x = (0 : Int32) then (1 : Int32) else (0 : Int32)
theorem own_b0 {x : Int32} (h : own_b x = 0) : x ≠ 0 := fun q => by rw [q] at h; exact absurd h (by decide)
def own_same (n : Int) (f g : Int → Int32) : Prop := own_inj n g ∧ (∀ y : Int32, y ≠ 0 → (own_mem n g y ↔ own_mem n f y)) ∧ own_cnt g n.toNat = own_cnt f n.toNat
theorem own_same_refl {n : Int} {f : Int → Int32} (h : own_inj n f) : own_same n f f := ⟨h, fun _ _ => Iff.rfl, rfl⟩
theorem own_gap0 {nn pl : Int32} {g : Int → Int32} {z : Int} (hn : own_len nn.toInt) (hpl : 0 ≤ pl.toInt ∧ pl.toInt < nn.toInt) (hk : (pl.toInt + ((0 : Nat) : Int)) % nn.toInt = z) (hz : g z = 0) : g pl.toInt = 0 := by
  have e : z = pl.toInt := by
    rw [← hk]
    rcases hn with h | h <;> rw [h] at hpl ⊢ <;> omega
  rw [← e]; exact hz
theorem own_nxt_rng {nn : Int32} (hn : own_len nn.toInt) {i : Int32} (h1 : 0 ≤ i.toInt ∧ i.toInt < nn.toInt) : (own_nxt i nn).toInt = (i.toInt + 1) % nn.toInt := by
  have a := c_iadd i 1
  rw [show (1 : Int32).toInt = 1 from rfl] at a
  have b := rng32 (i + 1)
  unfold own_nxt
  rcases own_len_cases hn with rfl | rfl
  · rw [show (4 : Int32).toInt = 4 from rfl] at *
    have m := c_mask (i + 1) ((4 : Int32) - 1) 2 (by decide) (by decide)
    rw [m]; omega
  · rw [show (8 : Int32).toInt = 8 from rfl] at *
    have m := c_mask (i + 1) ((8 : Int32) - 1) 3 (by decide) (by decide)
    rw [m]; omega
theorem own_gapn {nn pl : Int32} {z : Int} {k : Nat} (hn : own_len nn.toInt) (hpl : 0 ≤ pl.toInt ∧ pl.toInt < nn.toInt) (hk : (pl.toInt + ((k + 1 : Nat) : Int)) % nn.toInt = z) (p2 : Int32) (q : p2 = own_nxt pl nn) : (0 ≤ p2.toInt ∧ p2.toInt < nn.toInt) ∧ (p2.toInt + (k : Int)) % nn.toInt = z := by
  have a := own_nxt_rng hn hpl
  rw [← q] at a
  rw [a]
  rcases hn with h | h <;> rw [h] at hpl hk ⊢ <;> omega
theorem own_gaps {nn p1 : Int32} {z : Int} (hn : own_len nn.toInt) (hp : 0 ≤ p1.toInt ∧ p1.toInt < nn.toInt) (z1 : 0 ≤ z) (z2 : z < nn.toInt) (p0 : Int32) (q : p0 = own_nxt p1 nn) : ∃ kz : Nat, (0 ≤ p0.toInt ∧ p0.toInt < nn.toInt) ∧ (p0.toInt + (kz : Int)) % nn.toInt = z := by
  have a := own_nxt_rng hn hp
  rw [← q] at a
  refine ⟨((z - p0.toInt) % nn.toInt).toNat, ?_, ?_⟩
  · rw [a]; rcases hn with h | h <;> rw [h] at hp z2 ⊢ <;> omega
  · rw [a]; rcases hn with h | h <;> rw [h] at hp z2 ⊢ <;> omega
theorem own_gapm {nn gp pl : Int32} {f g : Int → Int32} {z : Int} (hn : own_len nn.toInt) (hgp : 0 ≤ gp.toInt ∧ gp.toInt < nn.toInt) (hg0 : g gp.toInt = 0) (hpl : 0 ≤ pl.toInt ∧ pl.toInt < nn.toInt) (hnz : g pl.toInt ≠ 0) (hz : g z = 0 ∧ z ≠ gp.toInt) (hS : own_same nn.toInt f g) :
    ownUpd (ownUpd g gp.toInt (g pl.toInt)) pl.toInt (0 : Int32) pl.toInt = 0 ∧ (ownUpd (ownUpd g gp.toInt (g pl.toInt)) pl.toInt (0 : Int32) z = 0 ∧ z ≠ pl.toInt) ∧ own_same nn.toInt f (ownUpd (ownUpd g gp.toInt (g pl.toInt)) pl.toInt (0 : Int32)) := by
  have hne : z ≠ pl.toInt := fun e => hnz (by rw [← e]; exact hz.1)
  have hp := own_len_pos hn
  refine ⟨ownUpd_same _ _ _, ⟨by rw [ownUpd_ne _ _ _ hne, ownUpd_ne _ _ _ hz.2]; exact hz.1, hne⟩, own_move_inj hpl hgp hg0 hnz hS.1, fun y hy => ?_, ?_⟩
  · rw [own_move_mem hpl hgp hg0 hnz hy]; exact hS.2.1 y hy
  · rw [own_move_cnt nn.toInt.toNat ⟨hpl.1, by omega⟩ ⟨hgp.1, by omega⟩ hg0 hnz]; exact hS.2.2

theorem d6_0 : decode prog_29_method_8_code 0 = .ok (.aload_n 0, 1) := by decide +kernel
theorem d6_1 : decode prog_29_method_8_code 1 = .ok (.arraylength, 1) := by decide +kernel
theorem d6_2 : decode prog_29_method_8_code 2 = .ok (.bipush 64, 2) := by decide +kernel
theorem d6_4 : decode prog_29_method_8_code 4 = .ok (.if_icmp .ge 13, 3) := by decide +kernel
theorem d6_7 : decode prog_29_method_8_code 7 = .ok (.iload_n 1, 1) := by decide +kernel
theorem d6_8 : decode prog_29_method_8_code 8 = .ok (.aload_n 0, 1) := by decide +kernel
theorem d6_9 : decode prog_29_method_8_code 9 = .ok (.arraylength, 1) := by decide +kernel
theorem d6_10 : decode prog_29_method_8_code 10 = .ok (.invokestatic 47, 3) := by decide +kernel
theorem d6_13 : decode prog_29_method_8_code 13 = .ok (.istore_n 2, 1) := by decide +kernel
theorem d6_14 : decode prog_29_method_8_code 14 = .ok (.goto 23, 3) := by decide +kernel
theorem d6_37 : decode prog_29_method_8_code 37 = .ok (.iload_n 2, 1) := by decide +kernel
theorem d6_38 : decode prog_29_method_8_code 38 = .ok (.ireturn, 1) := by decide +kernel
theorem pn_6 : plainFor (⟨"com/example/utu/utu/SlotNumbers", "home", "([II)I"⟩ : MethodName) = true := plainFor_of_name (by first | (simp [plainName, overriddenIn]; done) | decide +kernel)
theorem pd_6 : parseMethodDescriptor "([II)I" = some ⟨[(.array .int), .int], some .int⟩ := by decide +kernel
theorem ef_6 (m : MethodId) (x0 : Addr) (x1 : Int32) : entryFrame m #[(.ref x0), (.int x1)] 4 = mkF m 0 #[.val (.ref x0), .val (.int x1), .unset, .unset] [] := by first | (simp [entryFrame, mkF, argsToLocals, Value.category, maxLocals]; done) | rfl
def Q6 (Z : State) (a1 : Addr) (p1 : Int32) (nn : Int32) (f : Int → Int32) (h0 : Heap) (n0 : Nat) (v : Option Value) (h : Heap) (L : List Loc) : Prop := v = some (.int (own_oh p1 nn)) ∧ Fr n0 L ∧ h = h0
set_option maxRecDepth 65536 in
set_option maxHeartbeats 40000000 in
theorem rm6 (l : Launch) (Z : State) (a0 : Array Value) (hw : ∀ d ∈ tables_1, d.before a0 Z = true) (ws : List Jvm.Cond) (a1 : Addr) (p1 : Int32) (nn : Int32) (f : Int → Int32) (h0 : Heap) (n0 : Nat) (Z0 : n0 ≤ h0.size) (A0 : OwnA Z h0 a1 .int nn (fun i => .int (f i))) (hp2 : nn = 4 ∨ nn = 8) :
    MetFree l (⟨"com/example/utu/utu/SlotNumbers", "home", "([II)I"⟩ : MethodName) (head1 (Jvm.Cond.code (⟨"com/example/utu/utu/SlotNumbers", "home", "([II)I"⟩ : MethodName) prog_29_method_8_code 4 (some .int) :: ws) ({ frames := 2, cells := 0, slots := 0, locals := 27 } : Room)) (fun a U => a = #[(.ref a1), (.int p1)] ∧ Z.Warmed39 U.vm ∧ U.heap = h0) (fun _ _ _ _ _ => True) (fun _ U oc U' => ∃ v L, oc = .returned v ∧ Q6 Z a1 p1 nn f h0 n0 v U'.heap L ∧ FrameEnd U oc U' L ({ frames := 2, cells := 0, slots := 0, locals := 27 } : Room).cells ({ frames := 2, cells := 0, slots := 0, locals := 27 } : Room).slots) := by
  refine MetFree.of_bodySF pn_6 hisR ?_
  intro p e s m args below meth c s₁ Bd hml0 hP hK
  obtain ⟨rfl, hZ, hh⟩ := hP
  have hx := Bd.exec
  have hby := Bd.bytes
  have hlk := BodyLoose.notSynchronized Bd
  have hml : c.maxLocals = 4 := hml0
  have hown : s.vm.findClass "com/example/utu/utu/SlotNumbers" = some m.cls := findClass_of_methodNamed Bd.named
  have hnm := (name_of_methodNamed Bd.named Bd.method).1
  have X0 : Stand p l e ({ frames := 2, cells := 0, slots := 0, locals := 27 } : Room) s m #[(.ref a1), (.int p1)] below meth c s₁ [] 0 0 := Stand.of_body Bd
  have e0 : s₁.heap = h0 := by rw [← hh, Bd.state]; rfl
  have N0 := Fr.nil n0
  show OwnWp p e below s ({ frames := 2, cells := 0, slots := 0, locals := 27 } : Room).cells ({ frames := 2, cells := 0, slots := 0, locals := 27 } : Room).slots (Q6 Z a1 p1 nn f h0 n0) (s₁.setTop (entryFrame m #[(.ref a1), (.int p1)] 4))
  refine OwnWp.cast (ef_6 m a1 p1) ?_
  show OwnWp p e below s _ _ _ (s₁.setTop (mkF m 0 #[.val (.ref a1), .val (.int p1), .unset, .unset] []))
  have hn : nn < (64 : Int32) := by rcases hp2 with rfl | rfl <;> decide
  refine OwnWp.step (U' := s₁.setTop (mkF m 10 #[.val (.ref a1), .val (.int p1), .unset, .unset] [(.int nn), (.int p1)])) (fun t k => ?_) ?_
  · show Steps p.tables e below (s₁.setTop (mkF m 0 #[.val (.ref a1), .val (.int p1), .unset, .unset] [])) _
    refine XS.aloadN X0.here hx rfl (hb hby d6_0) rfl rfl ?_
    show Steps p.tables e below (s₁.setTop (mkF m 1 #[.val (.ref a1), .val (.int p1), .unset, .unset] [(.ref a1)])) _
    refine OwnA.alen X0 hx hZ e0 A0 rfl rfl (hb hby d6_1) ?_
    show Steps p.tables e below (s₁.setTop (mkF m 2 #[.val (.ref a1), .val (.int p1), .unset, .unset] [(.int nn)])) _
    refine XT.bipushV X0.here hx rfl (64 : Int32) (hb hby d6_2) rfl ?_
    show Steps p.tables e below (s₁.setTop (mkF m 4 #[.val (.ref a1), .val (.int p1), .unset, .unset] [(.int (64 : Int32)), (.int nn)])) _
    refine XS.icmpNo X0.here hx rfl (hb hby d6_4) rfl (XT.ii_ge_f hn) ?_
    show Steps p.tables e below (s₁.setTop (mkF m 7 #[.val (.ref a1), .val (.int p1), .unset, .unset] [])) _
    refine XS.iloadN X0.here hx rfl (hb hby d6_7) rfl ?_
    show Steps p.tables e below (s₁.setTop (mkF m 8 #[.val (.ref a1), .val (.int p1), .unset, .unset] [(.int p1)])) _
    refine XS.aloadN X0.here hx rfl (hb hby d6_8) rfl rfl ?_
    show Steps p.tables e below (s₁.setTop (mkF m 9 #[.val (.ref a1), .val (.int p1), .unset, .unset] [(.ref a1), (.int p1)])) _
    refine OwnA.alen X0 hx hZ e0 A0 rfl rfl (hb hby d6_9) ?_
    show Steps p.tables e below (s₁.setTop (mkF m 10 #[.val (.ref a1), .val (.int p1), .unset, .unset] [(.int nn), (.int p1)])) _
    exact k
  show OwnWp p e below s _ _ _ (s₁.setTop (mkF m 10 #[.val (.ref a1), .val (.int p1), .unset, .unset] [(.int nn), (.int p1)]))
  obtain ⟨_, _, ⟨T5, L5, k5, n5⟩, -, X5, ⟨Lc5, hQ5, l5, y5, z5⟩, st5⟩ := Jvm.LawKit.callS X0 hx (y := (⟨"com/example/utu/utu/OpenAddressing", "home", "(II)I"⟩ : MethodName)) hown (mvT hZ (hw _ (List.mem_of_getElem? (i := 29) rfl))) (mvT hZ (hw _ (List.mem_of_getElem? (i := 30) rfl))) (mvT hZ (hw _ (List.mem_of_getElem? (i := 31) rfl))) (mvT hZ (hw _ (List.mem_of_getElem? (i := 32) rfl))) (by decide) (backOf (W := 0) (rm7 l Z a0 hw [] p1 nn h0 n0 Z0 hp2) hZ (hw _ (List.mem_of_getElem? (i := 32) rfl)) (hw _ (List.mem_of_getElem? (i := 31) rfl)) (by decide) (by decide)) (g := (mkF m 10 #[.val (.ref a1), .val (.int p1), .unset, .unset] [(.int nn), (.int p1)])) rfl (by rw [hml]; rfl) (argsL := [(.int p1), (.int nn)]) (rest := []) (lenOf pd_7 rfl) rfl (by show 2 * 0 + _ ≤ _; exact Nat.le_of_eq rfl) (hb hby d6_10) (fun _ _ => ⟨rfl, e0, (by dsimp only [Pt.cells]; decide), (by dsimp only [Pt.slots]; decide)⟩)
  dsimp only [Pt.U, Pt.locs, Pt.cells, Pt.slots] at X5 l5 y5 z5 st5 hQ5
  subst l5 y5 z5
  obtain ⟨rfl, Nc5, hp5⟩ := hQ5
  have N5 := Fr.app N0 Nc5
  refine OwnWp.step st5 ?_
  have eh5 : T5.heap = h0 := hp5
  show OwnWp p e below s _ _ _ (T5.setTop (mkF m 13 #[.val (.ref a1), .val (.int p1), .unset, .unset] [(.int (own_oh p1 nn))]))
  obtain ⟨w1, qw1⟩ : ∃ z : Int32, z = (own_oh p1 nn) := ⟨_, rfl⟩
  refine OwnWp.step (U' := T5.setTop (mkF m 14 #[.val (.ref a1), .val (.int p1), .val (.int w1), .unset] [])) (fun t k => ?_) ?_
  · show Steps p.tables e below (T5.setTop (mkF m 13 #[.val (.ref a1), .val (.int p1), .unset, .unset] [(.int (own_oh p1 nn))])) _
    refine XS.istoreN X5.here hx rfl (hb hby d6_13) rfl (l' := #[.val (.ref a1), .val (.int p1), .val (.int (own_oh p1 nn)), .unset]) rfl ?_
    show Steps p.tables e below (T5.setTop (mkF m 14 #[.val (.ref a1), .val (.int p1), .val (.int (own_oh p1 nn)), .unset] [])) _
    rw [qw1] at k
    exact k
  refine OwnWp.step (U' := T5.setTop (mkF m 38 #[.val (.ref a1), .val (.int p1), .val (.int w1), .unset] [(.int w1)])) (fun t k => ?_) ?_
  · show Steps p.tables e below (T5.setTop (mkF m 14 #[.val (.ref a1), .val (.int p1), .val (.int w1), .unset] [])) _
    refine XS.goto X5.here hx rfl (pc0 := 14) (pc' := 37) rfl (hb hby d6_14) (by decide) (by decide) ?_
    show Steps p.tables e below (T5.setTop (mkF m 37 #[.val (.ref a1), .val (.int p1), .val (.int w1), .unset] [])) _
    refine XS.iloadN X5.here hx rfl (hb hby d6_37) rfl ?_
    show Steps p.tables e below (T5.setTop (mkF m 38 #[.val (.ref a1), .val (.int p1), .val (.int w1), .unset] [(.int w1)])) _
    exact k
  refine OwnWp.retI X5 hx hlk Bd.returns (hb hby d6_38) (by decide) (by decide) ?_
  exact ⟨by rw [qw1], N5, eh5⟩
theorem d5_0 : decode prog_29_method_6_code 0 = .ok (.aload_n 0, 1) := by decide +kernel
theorem d5_1 : decode prog_29_method_6_code 1 = .ok (.iload_n 1, 1) := by decide +kernel
theorem d5_2 : decode prog_29_method_6_code 2 = .ok (.invokestatic 40, 3) := by decide +kernel
theorem d5_5 : decode prog_29_method_6_code 5 = .ok (.istore_n 2, 1) := by decide +kernel
theorem d5_6 : decode prog_29_method_6_code 6 = .ok (.aload_n 0, 1) := by decide +kernel
theorem d5_7 : decode prog_29_method_6_code 7 = .ok (.iload_n 2, 1) := by decide +kernel
theorem d5_8 : decode prog_29_method_6_code 8 = .ok (.iaload, 1) := by decide +kernel
theorem d5_9 : decode prog_29_method_6_code 9 = .ok (.ifCond .eq 20, 3) := by decide +kernel
theorem d5_12 : decode prog_29_method_6_code 12 = .ok (.aload_n 0, 1) := by decide +kernel
theorem d5_13 : decode prog_29_method_6_code 13 = .ok (.iload_n 2, 1) := by decide +kernel
theorem d5_14 : decode prog_29_method_6_code 14 = .ok (.iaload, 1) := by decide +kernel
theorem d5_15 : decode prog_29_method_6_code 15 = .ok (.iload_n 1, 1) := by decide +kernel
theorem d5_16 : decode prog_29_method_6_code 16 = .ok (.if_icmp .eq 13, 3) := by decide +kernel
theorem d5_19 : decode prog_29_method_6_code 19 = .ok (.iload_n 2, 1) := by decide +kernel
theorem d5_20 : decode prog_29_method_6_code 20 = .ok (.aload_n 0, 1) := by decide +kernel
theorem d5_21 : decode prog_29_method_6_code 21 = .ok (.arraylength, 1) := by decide +kernel
theorem d5_22 : decode prog_29_method_6_code 22 = .ok (.invokestatic 43, 3) := by decide +kernel
theorem d5_25 : decode prog_29_method_6_code 25 = .ok (.istore_n 2, 1) := by decide +kernel
theorem d5_26 : decode prog_29_method_6_code 26 = .ok (.goto (-20), 3) := by decide +kernel
theorem d5_29 : decode prog_29_method_6_code 29 = .ok (.iload_n 2, 1) := by decide +kernel
theorem d5_30 : decode prog_29_method_6_code 30 = .ok (.ireturn, 1) := by decide +kernel
theorem pn_5 : plainFor (⟨"com/example/utu/utu/SlotNumbers", "find", "([II)I"⟩ : MethodName) = true := plainFor_of_name (by first | (simp [plainName, overriddenIn]; done) | decide +kernel)
theorem pd_5 : parseMethodDescriptor "([II)I" = some ⟨[(.array .int), .int], some .int⟩ := by decide +kernel
theorem ef_5 (m : MethodId) (x0 : Addr) (x1 : Int32) : entryFrame m #[(.ref x0), (.int x1)] 3 = mkF m 0 #[.val (.ref x0), .val (.int x1), .unset] [] := by first | (simp [entryFrame, mkF, argsToLocals, Value.category, maxLocals]; done) | rfl
def Q5 (Z : State) (a1 : Addr) (p1 : Int32) (nn : Int32) (f : Int → Int32) (h0 : Heap) (n0 : Nat) (v : Option Value) (h : Heap) (L : List Loc) : Prop := ∃ r : Int32, v = some (.int r) ∧ Fr n0 L ∧ h = h0 ∧ own_found nn.toInt f p1 r.toInt
set_option maxRecDepth 65536 in
set_option maxHeartbeats 40000000 in
theorem rm5 (l : Launch) (Z : State) (a0 : Array Value) (hw : ∀ d ∈ tables_1, d.before a0 Z = true) (ws : List Jvm.Cond) (a1 : Addr) (p1 : Int32) (nn : Int32) (f : Int → Int32) (h0 : Heap) (n0 : Nat) (Z0 : n0 ≤ h0.size) (A0 : OwnA Z h0 a1 .int nn (fun i => .int (f i))) (hn : own_len nn.toInt) (hz : ∃ z : Int, 0 ≤ z ∧ z < nn.toInt ∧ f z = 0) :
    MetFree l (⟨"com/example/utu/utu/SlotNumbers", "find", "([II)I"⟩ : MethodName) (head1 (Jvm.Cond.code (⟨"com/example/utu/utu/SlotNumbers", "find", "([II)I"⟩ : MethodName) prog_29_method_6_code 3 (some .int) :: ws) ({ frames := 3, cells := 0, slots := 0, locals := 42 } : Room)) (fun a U => a = #[(.ref a1), (.int p1)] ∧ Z.Warmed39 U.vm ∧ U.heap = h0) (fun _ _ _ _ _ => True) (fun _ U oc U' => ∃ v L, oc = .returned v ∧ Q5 Z a1 p1 nn f h0 n0 v U'.heap L ∧ FrameEnd U oc U' L ({ frames := 3, cells := 0, slots := 0, locals := 42 } : Room).cells ({ frames := 3, cells := 0, slots := 0, locals := 42 } : Room).slots) := by
  refine MetFree.of_bodySF pn_5 hisR ?_
  intro p e s m args below meth c s₁ Bd hml0 hP hK
  obtain ⟨rfl, hZ, hh⟩ := hP
  have hx := Bd.exec
  have hby := Bd.bytes
  have hlk := BodyLoose.notSynchronized Bd
  have hml : c.maxLocals = 3 := hml0
  have hown : s.vm.findClass "com/example/utu/utu/SlotNumbers" = some m.cls := findClass_of_methodNamed Bd.named
  have hnm := (name_of_methodNamed Bd.named Bd.method).1
  have X0 : Stand p l e ({ frames := 3, cells := 0, slots := 0, locals := 42 } : Room) s m #[(.ref a1), (.int p1)] below meth c s₁ [] 0 0 := Stand.of_body Bd
  have e0 : s₁.heap = h0 := by rw [← hh, Bd.state]; rfl
  have N0 := Fr.nil n0
  show OwnWp p e below s ({ frames := 3, cells := 0, slots := 0, locals := 42 } : Room).cells ({ frames := 3, cells := 0, slots := 0, locals := 42 } : Room).slots (Q5 Z a1 p1 nn f h0 n0) (s₁.setTop (entryFrame m #[(.ref a1), (.int p1)] 3))
  refine OwnWp.cast (ef_5 m a1 p1) ?_
  show OwnWp p e below s _ _ _ (s₁.setTop (mkF m 0 #[.val (.ref a1), .val (.int p1), .unset] []))
  refine OwnWp.step (U' := s₁.setTop (mkF m 2 #[.val (.ref a1), .val (.int p1), .unset] [(.int p1), (.ref a1)])) (fun t k => ?_) ?_
  · show Steps p.tables e below (s₁.setTop (mkF m 0 #[.val (.ref a1), .val (.int p1), .unset] [])) _
    refine XS.aloadN X0.here hx rfl (hb hby d5_0) rfl rfl ?_
    show Steps p.tables e below (s₁.setTop (mkF m 1 #[.val (.ref a1), .val (.int p1), .unset] [(.ref a1)])) _
    refine XS.iloadN X0.here hx rfl (hb hby d5_1) rfl ?_
    show Steps p.tables e below (s₁.setTop (mkF m 2 #[.val (.ref a1), .val (.int p1), .unset] [(.int p1), (.ref a1)])) _
    exact k
  obtain ⟨z, z1, z2, z3⟩ := hz
  obtain ⟨kz, -, hkz⟩ := own_at_all hn p1 z z1 z2
  rw [← hkz] at z3
  obtain ⟨_, _, ⟨T6, L6, k6, n6⟩, -, X6, ⟨Lc6, hQ6, l6, y6, z6⟩, st6⟩ := Jvm.LawKit.callS X0 hx (y := (⟨"com/example/utu/utu/SlotNumbers", "home", "([II)I"⟩ : MethodName)) hown (mvT hZ (hw _ (List.mem_of_getElem? (i := 26) rfl))) (mvT hZ (hw _ (List.mem_of_getElem? (i := 27) rfl))) (mvT hZ (hw _ (List.mem_of_getElem? (i := 9) rfl))) (mvT hZ (hw _ (List.mem_of_getElem? (i := 28) rfl))) (by decide) (backOf (W := 0) (rm6 l Z a0 hw [] a1 p1 nn f h0 n0 Z0 A0 (own_len_cases hn)) hZ (hw _ (List.mem_of_getElem? (i := 28) rfl)) (hw _ (List.mem_of_getElem? (i := 9) rfl)) (by decide) (by decide)) (g := (mkF m 2 #[.val (.ref a1), .val (.int p1), .unset] [(.int p1), (.ref a1)])) rfl (by rw [hml]; rfl) (argsL := [(.ref a1), (.int p1)]) (rest := []) (lenOf pd_6 rfl) rfl (by show 2 * 0 + _ ≤ _; exact Nat.le_of_eq rfl) (hb hby d5_2) (fun _ _ => ⟨rfl, e0, (by dsimp only [Pt.cells]; decide), (by dsimp only [Pt.slots]; decide)⟩)
  dsimp only [Pt.U, Pt.locs, Pt.cells, Pt.slots] at X6 l6 y6 z6 st6 hQ6
  subst l6 y6 z6
  obtain ⟨rfl, Nc6, hp6⟩ := hQ6
  have N6 := Fr.app N0 Nc6
  refine OwnWp.step st6 ?_
  have eh6 : T6.heap = h0 := hp6
  show OwnWp p e below s _ _ _ (T6.setTop (mkF m 5 #[.val (.ref a1), .val (.int p1), .unset] [(.int (own_oh p1 nn))]))
  obtain ⟨w1, qw1⟩ : ∃ z : Int32, z = (own_oh p1 nn) := ⟨_, rfl⟩
  refine OwnWp.step (U' := T6.setTop (mkF m 6 #[.val (.ref a1), .val (.int p1), .val (.int w1)] [])) (fun t k => ?_) ?_
  · show Steps p.tables e below (T6.setTop (mkF m 5 #[.val (.ref a1), .val (.int p1), .unset] [(.int (own_oh p1 nn))])) _
    refine XS.istoreN X6.here hx rfl (hb hby d5_5) rfl (l' := #[.val (.ref a1), .val (.int p1), .val (.int (own_oh p1 nn))]) rfl ?_
    show Steps p.tables e below (T6.setTop (mkF m 6 #[.val (.ref a1), .val (.int p1), .val (.int (own_oh p1 nn))] [])) _
    rw [qw1] at k
    exact k
  have hloop : ∀ (k : Nat) (T7 : State) (h7 : Heap) (L7 : List Loc) (i : Int32) (q : Nat) (X7 : Stand p l e ({ frames := 3, cells := 0, slots := 0, locals := 42 } : Room) s m #[(.ref a1), (.int p1)] below meth c T7 L7 0 0) (e7 : T7.heap = h7) (N7 : Fr n0 L7) (Z7 : n0 ≤ h7.size) (f8 : OwnA Z h7 a1 .int nn (fun zi => .int (f zi))) (hq0 : h7 = h0) (hk : q + k = kz) (hi : i.toInt = own_at nn.toInt p1 q) (hall : ∀ k' : Nat, k' < q → f (own_at nn.toInt p1 k') ≠ 0 ∧ f (own_at nn.toInt p1 k') ≠ p1), OwnWp p e below s ({ frames := 3, cells := 0, slots := 0, locals := 42 } : Room).cells ({ frames := 3, cells := 0, slots := 0, locals := 42 } : Room).slots (Q5 Z a1 p1 nn f h0 n0) (T7.setTop (mkF m 6 #[.val (.ref a1), .val (.int p1), .val (.int i)] [])) := by
    intro k
    induction k with
    | zero =>
      intro T7 h7 L7 i q X7 e7 N7 Z7 f8 hq0 hk hi hall
      refine OwnWp.step (U' := T7.setTop (mkF m 9 #[.val (.ref a1), .val (.int p1), .val (.int i)] [(.int (f i.toInt))])) (fun t k => ?_) ?_
      · show Steps p.tables e below (T7.setTop (mkF m 6 #[.val (.ref a1), .val (.int p1), .val (.int i)] [])) _
        refine XS.aloadN X7.here hx rfl (hb hby d5_6) rfl rfl ?_
        show Steps p.tables e below (T7.setTop (mkF m 7 #[.val (.ref a1), .val (.int p1), .val (.int i)] [(.ref a1)])) _
        refine XS.iloadN X7.here hx rfl (hb hby d5_7) rfl ?_
        show Steps p.tables e below (T7.setTop (mkF m 8 #[.val (.ref a1), .val (.int p1), .val (.int i)] [(.int i), (.ref a1)])) _
        refine OwnA.ldI X7 hx hZ e7 f8 (by rw [hi]; exact (own_at_rng hn p1 q).1) (by rw [hi]; exact (own_at_rng hn p1 q).2) rfl rfl (hb hby d5_8) ?_
        show Steps p.tables e below (T7.setTop (mkF m 9 #[.val (.ref a1), .val (.int p1), .val (.int i)] [(.int (f i.toInt))])) _
        exact k
      by_cases c9_9 : (f i.toInt) = (0 : Int32)
      · refine OwnWp.step (U' := T7.setTop (mkF m 29 #[.val (.ref a1), .val (.int p1), .val (.int i)] [])) (fun t k => ?_) ?_
        · show Steps p.tables e below (T7.setTop (mkF m 9 #[.val (.ref a1), .val (.int p1), .val (.int i)] [(.int (f i.toInt))])) _
          refine XS.ifYes X7.here hx rfl (pc0 := 9) (pc' := 29) rfl (hb hby d5_9) rfl (XT.i0_eq_t c9_9) (by decide) (by decide) ?_
          exact k
        refine OwnWp.step (U' := T7.setTop (mkF m 30 #[.val (.ref a1), .val (.int p1), .val (.int i)] [(.int i)])) (fun t k => ?_) ?_
        · show Steps p.tables e below (T7.setTop (mkF m 29 #[.val (.ref a1), .val (.int p1), .val (.int i)] [])) _
          refine XS.iloadN X7.here hx rfl (hb hby d5_29) rfl ?_
          show Steps p.tables e below (T7.setTop (mkF m 30 #[.val (.ref a1), .val (.int p1), .val (.int i)] [(.int i)])) _
          exact k
        refine OwnWp.retI X7 hx hlk Bd.returns (hb hby d5_30) (by decide) (by decide) ?_
        exact ⟨i, rfl, N7, e7.trans hq0, Or.inl c9_9, q, hi.symm, hall⟩
      · refine OwnWp.step (U' := T7.setTop (mkF m 12 #[.val (.ref a1), .val (.int p1), .val (.int i)] [])) (fun t k => ?_) ?_
        · show Steps p.tables e below (T7.setTop (mkF m 9 #[.val (.ref a1), .val (.int p1), .val (.int i)] [(.int (f i.toInt))])) _
          refine XS.ifNo X7.here hx rfl (hb hby d5_9) rfl (XT.i0_eq_f c9_9) ?_
          exact k
        exact absurd (by rw [hi, show q = kz from hk]; exact z3) c9_9
    | succ k ih =>
      intro T7 h7 L7 i q X7 e7 N7 Z7 f8 hq0 hk hi hall
      refine OwnWp.step (U' := T7.setTop (mkF m 9 #[.val (.ref a1), .val (.int p1), .val (.int i)] [(.int (f i.toInt))])) (fun t k => ?_) ?_
      · show Steps p.tables e below (T7.setTop (mkF m 6 #[.val (.ref a1), .val (.int p1), .val (.int i)] [])) _
        refine XS.aloadN X7.here hx rfl (hb hby d5_6) rfl rfl ?_
        show Steps p.tables e below (T7.setTop (mkF m 7 #[.val (.ref a1), .val (.int p1), .val (.int i)] [(.ref a1)])) _
        refine XS.iloadN X7.here hx rfl (hb hby d5_7) rfl ?_
        show Steps p.tables e below (T7.setTop (mkF m 8 #[.val (.ref a1), .val (.int p1), .val (.int i)] [(.int i), (.ref a1)])) _
        refine OwnA.ldI X7 hx hZ e7 f8 (by rw [hi]; exact (own_at_rng hn p1 q).1) (by rw [hi]; exact (own_at_rng hn p1 q).2) rfl rfl (hb hby d5_8) ?_
        show Steps p.tables e below (T7.setTop (mkF m 9 #[.val (.ref a1), .val (.int p1), .val (.int i)] [(.int (f i.toInt))])) _
        exact k
      by_cases c9_10 : (f i.toInt) = (0 : Int32)
      · refine OwnWp.step (U' := T7.setTop (mkF m 29 #[.val (.ref a1), .val (.int p1), .val (.int i)] [])) (fun t k => ?_) ?_
        · show Steps p.tables e below (T7.setTop (mkF m 9 #[.val (.ref a1), .val (.int p1), .val (.int i)] [(.int (f i.toInt))])) _
          refine XS.ifYes X7.here hx rfl (pc0 := 9) (pc' := 29) rfl (hb hby d5_9) rfl (XT.i0_eq_t c9_10) (by decide) (by decide) ?_
          exact k
        refine OwnWp.step (U' := T7.setTop (mkF m 30 #[.val (.ref a1), .val (.int p1), .val (.int i)] [(.int i)])) (fun t k => ?_) ?_
        · show Steps p.tables e below (T7.setTop (mkF m 29 #[.val (.ref a1), .val (.int p1), .val (.int i)] [])) _
          refine XS.iloadN X7.here hx rfl (hb hby d5_29) rfl ?_
          show Steps p.tables e below (T7.setTop (mkF m 30 #[.val (.ref a1), .val (.int p1), .val (.int i)] [(.int i)])) _
          exact k
        refine OwnWp.retI X7 hx hlk Bd.returns (hb hby d5_30) (by decide) (by decide) ?_
        exact ⟨i, rfl, N7, e7.trans hq0, Or.inl c9_10, q, hi.symm, hall⟩
      · refine OwnWp.step (U' := T7.setTop (mkF m 12 #[.val (.ref a1), .val (.int p1), .val (.int i)] [])) (fun t k => ?_) ?_
        · show Steps p.tables e below (T7.setTop (mkF m 9 #[.val (.ref a1), .val (.int p1), .val (.int i)] [(.int (f i.toInt))])) _
          refine XS.ifNo X7.here hx rfl (hb hby d5_9) rfl (XT.i0_eq_f c9_10) ?_
          exact k
        refine OwnWp.step (U' := T7.setTop (mkF m 16 #[.val (.ref a1), .val (.int p1), .val (.int i)] [(.int p1), (.int (f i.toInt))])) (fun t k => ?_) ?_
        · show Steps p.tables e below (T7.setTop (mkF m 12 #[.val (.ref a1), .val (.int p1), .val (.int i)] [])) _
          refine XS.aloadN X7.here hx rfl (hb hby d5_12) rfl rfl ?_
          show Steps p.tables e below (T7.setTop (mkF m 13 #[.val (.ref a1), .val (.int p1), .val (.int i)] [(.ref a1)])) _
          refine XS.iloadN X7.here hx rfl (hb hby d5_13) rfl ?_
          show Steps p.tables e below (T7.setTop (mkF m 14 #[.val (.ref a1), .val (.int p1), .val (.int i)] [(.int i), (.ref a1)])) _
          refine OwnA.ldI X7 hx hZ e7 f8 (by rw [hi]; exact (own_at_rng hn p1 q).1) (by rw [hi]; exact (own_at_rng hn p1 q).2) rfl rfl (hb hby d5_14) ?_
          show Steps p.tables e below (T7.setTop (mkF m 15 #[.val (.ref a1), .val (.int p1), .val (.int i)] [(.int (f i.toInt))])) _
          refine XS.iloadN X7.here hx rfl (hb hby d5_15) rfl ?_
          show Steps p.tables e below (T7.setTop (mkF m 16 #[.val (.ref a1), .val (.int p1), .val (.int i)] [(.int p1), (.int (f i.toInt))])) _
          exact k
        by_cases c16_11 : (f i.toInt) = p1
        · refine OwnWp.step (U' := T7.setTop (mkF m 29 #[.val (.ref a1), .val (.int p1), .val (.int i)] [])) (fun t k => ?_) ?_
          · show Steps p.tables e below (T7.setTop (mkF m 16 #[.val (.ref a1), .val (.int p1), .val (.int i)] [(.int p1), (.int (f i.toInt))])) _
            refine XS.icmpYes X7.here hx rfl (pc0 := 16) (pc' := 29) rfl (hb hby d5_16) rfl (XT.ii_eq_t c16_11) (by decide) (by decide) ?_
            exact k
          refine OwnWp.step (U' := T7.setTop (mkF m 30 #[.val (.ref a1), .val (.int p1), .val (.int i)] [(.int i)])) (fun t k => ?_) ?_
          · show Steps p.tables e below (T7.setTop (mkF m 29 #[.val (.ref a1), .val (.int p1), .val (.int i)] [])) _
            refine XS.iloadN X7.here hx rfl (hb hby d5_29) rfl ?_
            show Steps p.tables e below (T7.setTop (mkF m 30 #[.val (.ref a1), .val (.int p1), .val (.int i)] [(.int i)])) _
            exact k
          refine OwnWp.retI X7 hx hlk Bd.returns (hb hby d5_30) (by decide) (by decide) ?_
          exact ⟨i, rfl, N7, e7.trans hq0, Or.inr c16_11, q, hi.symm, hall⟩
        · refine OwnWp.step (U' := T7.setTop (mkF m 19 #[.val (.ref a1), .val (.int p1), .val (.int i)] [])) (fun t k => ?_) ?_
          · show Steps p.tables e below (T7.setTop (mkF m 16 #[.val (.ref a1), .val (.int p1), .val (.int i)] [(.int p1), (.int (f i.toInt))])) _
            refine XS.icmpNo X7.here hx rfl (hb hby d5_16) rfl (XT.ii_eq_f c16_11) ?_
            exact k
          refine OwnWp.step (U' := T7.setTop (mkF m 22 #[.val (.ref a1), .val (.int p1), .val (.int i)] [(.int nn), (.int i)])) (fun t k => ?_) ?_
          · show Steps p.tables e below (T7.setTop (mkF m 19 #[.val (.ref a1), .val (.int p1), .val (.int i)] [])) _
            refine XS.iloadN X7.here hx rfl (hb hby d5_19) rfl ?_
            show Steps p.tables e below (T7.setTop (mkF m 20 #[.val (.ref a1), .val (.int p1), .val (.int i)] [(.int i)])) _
            refine XS.aloadN X7.here hx rfl (hb hby d5_20) rfl rfl ?_
            show Steps p.tables e below (T7.setTop (mkF m 21 #[.val (.ref a1), .val (.int p1), .val (.int i)] [(.ref a1), (.int i)])) _
            refine OwnA.alen X7 hx hZ e7 f8 rfl rfl (hb hby d5_21) ?_
            show Steps p.tables e below (T7.setTop (mkF m 22 #[.val (.ref a1), .val (.int p1), .val (.int i)] [(.int nn), (.int i)])) _
            exact k
          show OwnWp p e below s _ _ _ (T7.setTop (mkF m 22 #[.val (.ref a1), .val (.int p1), .val (.int i)] [(.int nn), (.int i)]))
          obtain ⟨_, _, ⟨T12, L12, k12, n12⟩, -, X12, ⟨Lc12, hQ12, l12, y12, z12⟩, st12⟩ := Jvm.LawKit.callS X7 hx (y := (⟨"com/example/utu/utu/OpenAddressing", "next", "(II)I"⟩ : MethodName)) hown (mvT hZ (hw _ (List.mem_of_getElem? (i := 115) rfl))) (mvT hZ (hw _ (List.mem_of_getElem? (i := 80) rfl))) (mvT hZ (hw _ (List.mem_of_getElem? (i := 31) rfl))) (mvT hZ (hw _ (List.mem_of_getElem? (i := 81) rfl))) (by decide) (backOf (W := 0) (rm16 l Z a0 hw [] i nn h7 n0 Z7 ) hZ (hw _ (List.mem_of_getElem? (i := 81) rfl)) (hw _ (List.mem_of_getElem? (i := 31) rfl)) (by decide) (by decide)) (g := (mkF m 22 #[.val (.ref a1), .val (.int p1), .val (.int i)] [(.int nn), (.int i)])) rfl (by rw [hml]; rfl) (argsL := [(.int i), (.int nn)]) (rest := []) (lenOf pd_16 rfl) rfl (by show 2 * 0 + _ ≤ _; exact Nat.le_of_eq rfl) (hb hby d5_22) (fun _ _ => ⟨rfl, e7, (by dsimp only [Pt.cells]; decide), (by dsimp only [Pt.slots]; decide)⟩)
          dsimp only [Pt.U, Pt.locs, Pt.cells, Pt.slots] at X12 l12 y12 z12 st12 hQ12
          subst l12 y12 z12
          obtain ⟨rfl, Nc12, hp12⟩ := hQ12
          have N12 := Fr.app N7 Nc12
          refine OwnWp.step st12 ?_
          have eh12 : T12.heap = h7 := hp12
          show OwnWp p e below s _ _ _ (T12.setTop (mkF m 25 #[.val (.ref a1), .val (.int p1), .val (.int i)] [(.int (own_nxt i nn))]))
          obtain ⟨w2, qw2⟩ : ∃ z : Int32, z = (own_nxt i nn) := ⟨_, rfl⟩
          refine OwnWp.step (U' := T12.setTop (mkF m 26 #[.val (.ref a1), .val (.int p1), .val (.int w2)] [])) (fun t k => ?_) ?_
          · show Steps p.tables e below (T12.setTop (mkF m 25 #[.val (.ref a1), .val (.int p1), .val (.int i)] [(.int (own_nxt i nn))])) _
            refine XS.istoreN X12.here hx rfl (hb hby d5_25) rfl (l' := #[.val (.ref a1), .val (.int p1), .val (.int (own_nxt i nn))]) rfl ?_
            show Steps p.tables e below (T12.setTop (mkF m 26 #[.val (.ref a1), .val (.int p1), .val (.int (own_nxt i nn))] [])) _
            rw [qw2] at k
            exact k
          refine OwnWp.step (U' := T12.setTop (mkF m 6 #[.val (.ref a1), .val (.int p1), .val (.int w2)] [])) (fun t k => ?_) ?_
          · show Steps p.tables e below (T12.setTop (mkF m 26 #[.val (.ref a1), .val (.int p1), .val (.int w2)] [])) _
            refine XS.goto X12.here hx rfl (pc0 := 26) (pc' := 6) rfl (hb hby d5_26) (by decide) (by decide) ?_
            show Steps p.tables e below (T12.setTop (mkF m 6 #[.val (.ref a1), .val (.int p1), .val (.int w2)] [])) _
            exact k
          have hi2 := own_nxt_at hn hi w2 qw2
          exact ih  T12 h7 _ w2 (q + 1) X12 eh12 N12 Z7 f8  hq0 (by omega) hi2 (fun k' hk' => by rcases Nat.lt_succ_iff_lt_or_eq.mp hk' with h9 | h9; exact hall k' h9; rw [h9, ← hi]; exact ⟨c9_10, c16_11⟩)
  exact hloop kz T6 h0 _ w1 0 X6 eh6 N6 Z0 A0  rfl (Nat.zero_add _) (by rw [qw1, own_at0 hn, own_oh_hm hn]) (fun k' hk' => absurd hk' (Nat.not_lt_zero _))
theorem d10_0 : decode prog_29_method_7_code 0 = .ok (.aload_n 0, 1) := by decide +kernel
theorem d10_1 : decode prog_29_method_7_code 1 = .ok (.aload_n 0, 1) := by decide +kernel
theorem d10_2 : decode prog_29_method_7_code 2 = .ok (.iload_n 1, 1) := by decide +kernel
theorem d10_3 : decode prog_29_method_7_code 3 = .ok (.invokestatic 21, 3) := by decide +kernel
theorem d10_6 : decode prog_29_method_7_code 6 = .ok (.iload_n 1, 1) := by decide +kernel
theorem d10_7 : decode prog_29_method_7_code 7 = .ok (.iastore, 1) := by decide +kernel
theorem d10_8 : decode prog_29_method_7_code 8 = .ok (.return_, 1) := by decide +kernel
theorem pn_10 : plainFor (⟨"com/example/utu/utu/SlotNumbers", "place", "([II)V"⟩ : MethodName) = true := plainFor_of_name (by first | (simp [plainName, overriddenIn]; done) | decide +kernel)
theorem pd_10 : parseMethodDescriptor "([II)V" = some ⟨[(.array .int), .int], none⟩ := by decide +kernel
theorem ef_10 (m : MethodId) (x0 : Addr) (x1 : Int32) : entryFrame m #[(.ref x0), (.int x1)] 2 = mkF m 0 #[.val (.ref x0), .val (.int x1)] [] := by first | (simp [entryFrame, mkF, argsToLocals, Value.category, maxLocals]; done) | rfl
def Q10 (Z : State) (a1 : Addr) (p1 : Int32) (nn : Int32) (f : Int → Int32) (h0 : Heap) (n0 : Nat) (v : Option Value) (h : Heap) (L : List Loc) : Prop := v = none ∧ Fr n0 L ∧ Keep h0 h [a1] ∧ ∃ r : Int, own_found nn.toInt f p1 r ∧ OwnA Z h a1 .int nn (fun i => .int ((ownUpd f r p1) i))
set_option maxRecDepth 65536 in
set_option maxHeartbeats 40000000 in
theorem rm10 (l : Launch) (Z : State) (a0 : Array Value) (hw : ∀ d ∈ tables_1, d.before a0 Z = true) (ws : List Jvm.Cond) (a1 : Addr) (p1 : Int32) (nn : Int32) (f : Int → Int32) (h0 : Heap) (n0 : Nat) (Z0 : n0 ≤ h0.size) (g0 : n0 ≤ a1) (A0 : OwnA Z h0 a1 .int nn (fun i => .int (f i))) (hn : own_len nn.toInt) (hz : ∃ z : Int, 0 ≤ z ∧ z < nn.toInt ∧ f z = 0) :
    MetFree l (⟨"com/example/utu/utu/SlotNumbers", "place", "([II)V"⟩ : MethodName) (head1 (Jvm.Cond.code (⟨"com/example/utu/utu/SlotNumbers", "place", "([II)V"⟩ : MethodName) prog_29_method_7_code 2 none :: ws) ({ frames := 4, cells := 0, slots := 0, locals := 57 } : Room)) (fun a U => a = #[(.ref a1), (.int p1)] ∧ Z.Warmed39 U.vm ∧ U.heap = h0) (fun _ _ _ _ _ => True) (fun _ U oc U' => ∃ v L, oc = .returned v ∧ Q10 Z a1 p1 nn f h0 n0 v U'.heap L ∧ FrameEnd U oc U' L ({ frames := 4, cells := 0, slots := 0, locals := 57 } : Room).cells ({ frames := 4, cells := 0, slots := 0, locals := 57 } : Room).slots) := by
  refine MetFree.of_bodySF pn_10 hisR ?_
  intro p e s m args below meth c s₁ Bd hml0 hP hK
  obtain ⟨rfl, hZ, hh⟩ := hP
  have hx := Bd.exec
  have hby := Bd.bytes
  have hlk := BodyLoose.notSynchronized Bd
  have hml : c.maxLocals = 2 := hml0
  have hown : s.vm.findClass "com/example/utu/utu/SlotNumbers" = some m.cls := findClass_of_methodNamed Bd.named
  have hnm := (name_of_methodNamed Bd.named Bd.method).1
  have X0 : Stand p l e ({ frames := 4, cells := 0, slots := 0, locals := 57 } : Room) s m #[(.ref a1), (.int p1)] below meth c s₁ [] 0 0 := Stand.of_body Bd
  have e0 : s₁.heap = h0 := by rw [← hh, Bd.state]; rfl
  have N0 := Fr.nil n0
  show OwnWp p e below s ({ frames := 4, cells := 0, slots := 0, locals := 57 } : Room).cells ({ frames := 4, cells := 0, slots := 0, locals := 57 } : Room).slots (Q10 Z a1 p1 nn f h0 n0) (s₁.setTop (entryFrame m #[(.ref a1), (.int p1)] 2))
  refine OwnWp.cast (ef_10 m a1 p1) ?_
  show OwnWp p e below s _ _ _ (s₁.setTop (mkF m 0 #[.val (.ref a1), .val (.int p1)] []))
  have K0 := Keep.refl h0 [a1]
  refine OwnWp.step (U' := s₁.setTop (mkF m 3 #[.val (.ref a1), .val (.int p1)] [(.int p1), (.ref a1), (.ref a1)])) (fun t k => ?_) ?_
  · show Steps p.tables e below (s₁.setTop (mkF m 0 #[.val (.ref a1), .val (.int p1)] [])) _
    refine XS.aloadN X0.here hx rfl (hb hby d10_0) rfl rfl ?_
    show Steps p.tables e below (s₁.setTop (mkF m 1 #[.val (.ref a1), .val (.int p1)] [(.ref a1)])) _
    refine XS.aloadN X0.here hx rfl (hb hby d10_1) rfl rfl ?_
    show Steps p.tables e below (s₁.setTop (mkF m 2 #[.val (.ref a1), .val (.int p1)] [(.ref a1), (.ref a1)])) _
    refine XS.iloadN X0.here hx rfl (hb hby d10_2) rfl ?_
    show Steps p.tables e below (s₁.setTop (mkF m 3 #[.val (.ref a1), .val (.int p1)] [(.int p1), (.ref a1), (.ref a1)])) _
    exact k
  obtain ⟨_, _, ⟨T13, L13, k13, n13⟩, -, X13, ⟨Lc13, hQ13, l13, y13, z13⟩, st13⟩ := Jvm.LawKit.callS X0 hx (y := (⟨"com/example/utu/utu/SlotNumbers", "find", "([II)I"⟩ : MethodName)) hown (mvT hZ (hw _ (List.mem_of_getElem? (i := 23) rfl))) (mvT hZ (hw _ (List.mem_of_getElem? (i := 24) rfl))) (mvT hZ (hw _ (List.mem_of_getElem? (i := 9) rfl))) (mvT hZ (hw _ (List.mem_of_getElem? (i := 25) rfl))) (by decide) (backOf (W := 1) (rm5 l Z a0 hw [] a1 p1 nn f h0 n0 Z0 A0 hn hz) hZ (hw _ (List.mem_of_getElem? (i := 25) rfl)) (hw _ (List.mem_of_getElem? (i := 9) rfl)) (by decide) (by decide)) (g := (mkF m 3 #[.val (.ref a1), .val (.int p1)] [(.int p1), (.ref a1), (.ref a1)])) rfl (by rw [hml]; rfl) (argsL := [(.ref a1), (.int p1)]) (rest := [(.ref a1)]) (lenOf pd_5 rfl) rfl (by show 2 * 0 + _ ≤ _; exact Nat.le_of_eq rfl) (hb hby d10_3) (fun _ _ => ⟨rfl, e0, (by dsimp only [Pt.cells]; decide), (by dsimp only [Pt.slots]; decide)⟩)
  dsimp only [Pt.U, Pt.locs, Pt.cells, Pt.slots] at X13 l13 y13 z13 st13 hQ13
  subst l13 y13 z13
  obtain ⟨d13, rfl, Nc13, hp13, hd13⟩ := hQ13
  have N13 := Fr.app N0 Nc13
  refine OwnWp.step st13 ?_
  have eh13 : T13.heap = h0 := hp13
  show OwnWp p e below s _ _ _ (T13.setTop (mkF m 6 #[.val (.ref a1), .val (.int p1)] [(.int d13), (.ref a1)]))
  refine OwnWp.step (U' := T13.setTop (mkF m 7 #[.val (.ref a1), .val (.int p1)] [(.int p1), (.int d13), (.ref a1)])) (fun t k => ?_) ?_
  · show Steps p.tables e below (T13.setTop (mkF m 6 #[.val (.ref a1), .val (.int p1)] [(.int d13), (.ref a1)])) _
    refine XS.iloadN X13.here hx rfl (hb hby d10_6) rfl ?_
    show Steps p.tables e below (T13.setTop (mkF m 7 #[.val (.ref a1), .val (.int p1)] [(.int p1), (.int d13), (.ref a1)])) _
    exact k
  obtain ⟨T14, h14, L14, X14, e14, N14, K14, F14, st14⟩ := OwnA.stI X13 hx hZ eh13 N13 g0 A0 (own_found_rng hn hd13).1 (own_found_rng hn hd13).2 (g := (mkF m 7 #[.val (.ref a1), .val (.int p1)] [(.int p1), (.int d13), (.ref a1)])) rfl rfl (hb hby d10_7)
  refine OwnWp.step st14 ?_
  have Z14 : n0 ≤ h14.size := Nat.le_trans Z0 K14.1
  have F15 : OwnA Z h14 a1 .int nn (fun zi => .int ((ownUpd f d13.toInt p1) zi)) := F14.congr (fun zi _ _ => by exact ownUpd_int f _ _ zi)
  have K16 := Keep.trans K0 K14 (allS (Or.inl (List.mem_of_getElem? (i := 0) rfl)) all0)
  show OwnWp p e below s _ _ _ (T14.setTop (mkF m 8 #[.val (.ref a1), .val (.int p1)] []))
  refine OwnWp.retV X14 hx hlk Bd.returns (hb hby d10_8) (by decide) (by decide) ?_
  rw [e14]
  exact ⟨rfl, N14, K16, d13.toInt, hd13, F15⟩
theorem d9_0 : decode prog_29_method_9_code 0 = .ok (.iconst 2, 1) := by decide +kernel
theorem d9_1 : decode prog_29_method_9_code 1 = .ok (.aload_n 0, 1) := by decide +kernel
theorem d9_2 : decode prog_29_method_9_code 2 = .ok (.arraylength, 1) := by decide +kernel
theorem d9_3 : decode prog_29_method_9_code 3 = .ok (.imul, 1) := by decide +kernel
theorem d9_4 : decode prog_29_method_9_code 4 = .ok (.newarray .int, 2) := by decide +kernel
theorem d9_6 : decode prog_29_method_9_code 6 = .ok (.astore_n 1, 1) := by decide +kernel
theorem d9_7 : decode prog_29_method_9_code 7 = .ok (.aload_n 0, 1) := by decide +kernel
theorem d9_8 : decode prog_29_method_9_code 8 = .ok (.astore_n 2, 1) := by decide +kernel
theorem d9_9 : decode prog_29_method_9_code 9 = .ok (.aload_n 2, 1) := by decide +kernel
theorem d9_10 : decode prog_29_method_9_code 10 = .ok (.arraylength, 1) := by decide +kernel
theorem d9_11 : decode prog_29_method_9_code 11 = .ok (.istore_n 3, 1) := by decide +kernel
theorem d9_12 : decode prog_29_method_9_code 12 = .ok (.iconst 0, 1) := by decide +kernel
theorem d9_13 : decode prog_29_method_9_code 13 = .ok (.istore 4, 2) := by decide +kernel
theorem d9_15 : decode prog_29_method_9_code 15 = .ok (.iload 4, 2) := by decide +kernel
theorem d9_17 : decode prog_29_method_9_code 17 = .ok (.iload_n 3, 1) := by decide +kernel
theorem d9_18 : decode prog_29_method_9_code 18 = .ok (.if_icmp .ge 26, 3) := by decide +kernel
theorem d9_21 : decode prog_29_method_9_code 21 = .ok (.aload_n 2, 1) := by decide +kernel
theorem d9_22 : decode prog_29_method_9_code 22 = .ok (.iload 4, 2) := by decide +kernel
theorem d9_24 : decode prog_29_method_9_code 24 = .ok (.iaload, 1) := by decide +kernel
theorem d9_25 : decode prog_29_method_9_code 25 = .ok (.istore 5, 2) := by decide +kernel
theorem d9_27 : decode prog_29_method_9_code 27 = .ok (.iload 5, 2) := by decide +kernel
theorem d9_29 : decode prog_29_method_9_code 29 = .ok (.ifCond .eq 9, 3) := by decide +kernel
theorem d9_32 : decode prog_29_method_9_code 32 = .ok (.aload_n 1, 1) := by decide +kernel
theorem d9_33 : decode prog_29_method_9_code 33 = .ok (.iload 5, 2) := by decide +kernel
theorem d9_35 : decode prog_29_method_9_code 35 = .ok (.invokestatic 49, 3) := by decide +kernel
theorem d9_38 : decode prog_29_method_9_code 38 = .ok (.iinc 4 1, 3) := by decide +kernel
theorem d9_41 : decode prog_29_method_9_code 41 = .ok (.goto (-26), 3) := by decide +kernel
theorem d9_44 : decode prog_29_method_9_code 44 = .ok (.aload_n 1, 1) := by decide +kernel
theorem d9_45 : decode prog_29_method_9_code 45 = .ok (.areturn, 1) := by decide +kernel
theorem pn_9 : plainFor (⟨"com/example/utu/utu/SlotNumbers", "grown", "([I)[I"⟩ : MethodName) = true := plainFor_of_name (by first | (simp [plainName, overriddenIn]; done) | decide +kernel)
theorem pd_9 : parseMethodDescriptor "([I)[I" = some ⟨[(.array .int)], some (.array .int)⟩ := by decide +kernel
theorem ef_9 (m : MethodId) (x0 : Addr) : entryFrame m #[(.ref x0)] 6 = mkF m 0 #[.val (.ref x0), .unset, .unset, .unset, .unset, .unset] [] := by first | (simp [entryFrame, mkF, argsToLocals, Value.category, maxLocals]; done) | rfl
def Q9 (Z : State) (a1 : Addr) (f : Int → Int32) (h0 : Heap) (n0 : Nat) (v : Option Value) (h : Heap) (L : List Loc) : Prop := ∃ (b : Addr) (g : Int → Int32), v = some (.ref b) ∧ Fr n0 L ∧ n0 ≤ b ∧ h0.size ≤ b ∧ Keep h0 h [] ∧ OwnA Z h b .int (8 : Int32) (fun i => .int (g i)) ∧ own_tab 8 g ∧ (∀ y : Int32, y ≠ 0 → (own_mem 8 g y ↔ own_mem 4 f y)) ∧ own_cnt g 8 = own_cnt f 4
set_option maxRecDepth 65536 in
set_option maxHeartbeats 40000000 in
theorem rm9 (l : Launch) (Z : State) (a0 : Array Value) (hw : ∀ d ∈ tables_1, d.before a0 Z = true) (ws : List Jvm.Cond) (a1 : Addr) (f : Int → Int32) (h0 : Heap) (n0 : Nat) (Z0 : n0 ≤ h0.size) (A0 : OwnA Z h0 a1 .int (4 : Int32) (fun i => .int (f i))) (hT : own_inj 4 f) :
    MetFree l (⟨"com/example/utu/utu/SlotNumbers", "grown", "([I)[I"⟩ : MethodName) (head1 (Jvm.Cond.code (⟨"com/example/utu/utu/SlotNumbers", "grown", "([I)[I"⟩ : MethodName) prog_29_method_9_code 6 (some (.array .int)) :: ws) ({ frames := 5, cells := 1, slots := 8, locals := 70 } : Room)) (fun a U => a = #[(.ref a1)] ∧ Z.Warmed39 U.vm ∧ U.heap = h0) (fun _ _ _ _ _ => True) (fun _ U oc U' => ∃ v L, oc = .returned v ∧ Q9 Z a1 f h0 n0 v U'.heap L ∧ FrameEnd U oc U' L ({ frames := 5, cells := 1, slots := 8, locals := 70 } : Room).cells ({ frames := 5, cells := 1, slots := 8, locals := 70 } : Room).slots) := by
  refine MetFree.of_bodySF pn_9 hisR ?_
  intro p e s m args below meth c s₁ Bd hml0 hP hK
  obtain ⟨rfl, hZ, hh⟩ := hP
  have hx := Bd.exec
  have hby := Bd.bytes
  have hlk := BodyLoose.notSynchronized Bd
  have hml : c.maxLocals = 6 := hml0
  have hown : s.vm.findClass "com/example/utu/utu/SlotNumbers" = some m.cls := findClass_of_methodNamed Bd.named
  have hnm := (name_of_methodNamed Bd.named Bd.method).1
  have X0 : Stand p l e ({ frames := 5, cells := 1, slots := 8, locals := 70 } : Room) s m #[(.ref a1)] below meth c s₁ [] 0 0 := Stand.of_body Bd
  have e0 : s₁.heap = h0 := by rw [← hh, Bd.state]; rfl
  have N0 := Fr.nil n0
  show OwnWp p e below s ({ frames := 5, cells := 1, slots := 8, locals := 70 } : Room).cells ({ frames := 5, cells := 1, slots := 8, locals := 70 } : Room).slots (Q9 Z a1 f h0 n0) (s₁.setTop (entryFrame m #[(.ref a1)] 6))
  refine OwnWp.cast (ef_9 m a1) ?_
  show OwnWp p e below s _ _ _ (s₁.setTop (mkF m 0 #[.val (.ref a1), .unset, .unset, .unset, .unset, .unset] []))
  have K0 := Keep.refl h0 []
  refine OwnWp.step (U' := s₁.setTop (mkF m 4 #[.val (.ref a1), .unset, .unset, .unset, .unset, .unset] [(.int (8 : Int32))])) (fun t k => ?_) ?_
  · show Steps p.tables e below (s₁.setTop (mkF m 0 #[.val (.ref a1), .unset, .unset, .unset, .unset, .unset] [])) _
    refine XT.iconstV X0.here hx rfl (2 : Int32) (hb hby d9_0) rfl ?_
    show Steps p.tables e below (s₁.setTop (mkF m 1 #[.val (.ref a1), .unset, .unset, .unset, .unset, .unset] [(.int (2 : Int32))])) _
    refine XS.aloadN X0.here hx rfl (hb hby d9_1) rfl rfl ?_
    show Steps p.tables e below (s₁.setTop (mkF m 2 #[.val (.ref a1), .unset, .unset, .unset, .unset, .unset] [(.ref a1), (.int (2 : Int32))])) _
    refine OwnA.alen X0 hx hZ e0 A0 rfl rfl (hb hby d9_2) ?_
    show Steps p.tables e below (s₁.setTop (mkF m 3 #[.val (.ref a1), .unset, .unset, .unset, .unset, .unset] [(.int (4 : Int32)), (.int (2 : Int32))])) _
    refine XS.imul X0.here hx rfl (hb hby d9_3) rfl ?_
    show Steps p.tables e below (s₁.setTop (mkF m 4 #[.val (.ref a1), .unset, .unset, .unset, .unset, .unset] [(.int (8 : Int32))])) _
    exact k
  obtain ⟨T17, h17, cA17, X17, e17, E17, Ar17, st17⟩ := newP X0 hx hZ (aty := .int) (hw _ (List.mem_of_getElem? (i := 5) rfl)) e0 (g := (mkF m 4 #[.val (.ref a1), .unset, .unset, .unset, .unset, .unset] [(.int (8 : Int32))])) rfl (hb hby d9_4) rfl (by decide) (cap := 8) (by decide) (by decide) (by decide) (by decide)
  obtain ⟨ad17, ga17⟩ : ∃ z, z = h0.size := ⟨_, rfl⟩
  rw [← ga17] at Ar17 st17
  refine OwnWp.step st17 ?_
  have ne17_18 : a1 ≠ ad17 := Nat.ne_of_lt (by rw [ga17]; exact A0.lt)
  have Z17 : n0 ≤ h17.size := Nat.le_trans Z0 E17.1
  have b17 : n0 ≤ ad17 := Nat.le_trans Z0 (Nat.le_of_eq ga17.symm)
  have bk17 : h0.size ≤ ad17 := by rw [ga17]; exact K0.1
  have K19 := Keep.ext K0 E17
  have f20 := OwnA.ext A0 E17
  have F21 : OwnA Z h17 ad17 .int (8 : Int32) (fun _ => (.int (0 : Int32))) := OwnA.new Ar17 (by decide)
  show OwnWp p e below s _ _ _ (T17.setTop (mkF m 6 #[.val (.ref a1), .unset, .unset, .unset, .unset, .unset] [(.ref ad17)]))
  refine OwnWp.step (U' := T17.setTop (mkF m 15 #[.val (.ref a1), .val (.ref ad17), .val (.ref a1), .val (.int (4 : Int32)), .val (.int (0 : Int32)), .unset] [])) (fun t k => ?_) ?_
  · show Steps p.tables e below (T17.setTop (mkF m 6 #[.val (.ref a1), .unset, .unset, .unset, .unset, .unset] [(.ref ad17)])) _
    refine XS.astoreN X17.here hx rfl (hb hby d9_6) rfl rfl (l' := #[.val (.ref a1), .val (.ref ad17), .unset, .unset, .unset, .unset]) rfl ?_
    show Steps p.tables e below (T17.setTop (mkF m 7 #[.val (.ref a1), .val (.ref ad17), .unset, .unset, .unset, .unset] [])) _
    refine XS.aloadN X17.here hx rfl (hb hby d9_7) rfl rfl ?_
    show Steps p.tables e below (T17.setTop (mkF m 8 #[.val (.ref a1), .val (.ref ad17), .unset, .unset, .unset, .unset] [(.ref a1)])) _
    refine XS.astoreN X17.here hx rfl (hb hby d9_8) rfl rfl (l' := #[.val (.ref a1), .val (.ref ad17), .val (.ref a1), .unset, .unset, .unset]) rfl ?_
    show Steps p.tables e below (T17.setTop (mkF m 9 #[.val (.ref a1), .val (.ref ad17), .val (.ref a1), .unset, .unset, .unset] [])) _
    refine XS.aloadN X17.here hx rfl (hb hby d9_9) rfl rfl ?_
    show Steps p.tables e below (T17.setTop (mkF m 10 #[.val (.ref a1), .val (.ref ad17), .val (.ref a1), .unset, .unset, .unset] [(.ref a1)])) _
    refine OwnA.alen X17 hx hZ e17 f20 rfl rfl (hb hby d9_10) ?_
    show Steps p.tables e below (T17.setTop (mkF m 11 #[.val (.ref a1), .val (.ref ad17), .val (.ref a1), .unset, .unset, .unset] [(.int (4 : Int32))])) _
    refine XS.istoreN X17.here hx rfl (hb hby d9_11) rfl (l' := #[.val (.ref a1), .val (.ref ad17), .val (.ref a1), .val (.int (4 : Int32)), .unset, .unset]) rfl ?_
    show Steps p.tables e below (T17.setTop (mkF m 12 #[.val (.ref a1), .val (.ref ad17), .val (.ref a1), .val (.int (4 : Int32)), .unset, .unset] [])) _
    refine XT.iconstV X17.here hx rfl (0 : Int32) (hb hby d9_12) rfl ?_
    show Steps p.tables e below (T17.setTop (mkF m 13 #[.val (.ref a1), .val (.ref ad17), .val (.ref a1), .val (.int (4 : Int32)), .unset, .unset] [(.int (0 : Int32))])) _
    refine XS.istore X17.here hx rfl (hb hby d9_13) rfl (l' := #[.val (.ref a1), .val (.ref ad17), .val (.ref a1), .val (.int (4 : Int32)), .val (.int (0 : Int32)), .unset]) rfl ?_
    show Steps p.tables e below (T17.setTop (mkF m 15 #[.val (.ref a1), .val (.ref ad17), .val (.ref a1), .val (.int (4 : Int32)), .val (.int (0 : Int32)), .unset] [])) _
    exact k
  have hloop : ∀ (k : Nat) (T22 : State) (h22 : Heap) (L22 : List Loc) (i : Int32) (s5 : Slot) (g : Int → Int32) (X22 : Stand p l e ({ frames := 5, cells := 1, slots := 8, locals := 70 } : Room) s m #[(.ref a1)] below meth c T22 L22 (0 + 1) (0 + 8)) (e22 : T22.heap = h22) (N22 : Fr n0 L22) (Z22 : n0 ≤ h22.size) (f23 : OwnA Z h22 a1 .int (4 : Int32) (fun zi => .int (f zi))) (f24 : OwnA Z h22 ad17 .int (8 : Int32) (fun zi => .int (g zi))) (K25 : Keep h0 h22 []) (hs5 : One s5) (hi : i.toInt + (k : Int) = 4) (hi0 : 0 ≤ i.toInt) (hG : own_tab 8 g) (hM : ∀ y : Int32, y ≠ 0 → (own_mem 8 g y ↔ ∃ j : Int, 0 ≤ j ∧ j < i.toInt ∧ f j = y)) (hC : own_cnt g 8 = own_cnt f i.toInt.toNat), OwnWp p e below s ({ frames := 5, cells := 1, slots := 8, locals := 70 } : Room).cells ({ frames := 5, cells := 1, slots := 8, locals := 70 } : Room).slots (Q9 Z a1 f h0 n0) (T22.setTop (mkF m 15 #[.val (.ref a1), .val (.ref ad17), .val (.ref a1), .val (.int (4 : Int32)), .val (.int i), s5] [])) := by
    intro k
    induction k with
    | zero =>
      intro T22 h22 L22 i s5 g X22 e22 N22 Z22 f23 f24 K25 hs5 hi hi0 hG hM hC
      refine OwnWp.step (U' := T22.setTop (mkF m 18 #[.val (.ref a1), .val (.ref ad17), .val (.ref a1), .val (.int (4 : Int32)), .val (.int i), s5] [(.int (4 : Int32)), (.int i)])) (fun t k => ?_) ?_
      · show Steps p.tables e below (T22.setTop (mkF m 15 #[.val (.ref a1), .val (.ref ad17), .val (.ref a1), .val (.int (4 : Int32)), .val (.int i), s5] [])) _
        refine XS.iload X22.here hx rfl (hb hby d9_15) rfl ?_
        show Steps p.tables e below (T22.setTop (mkF m 17 #[.val (.ref a1), .val (.ref ad17), .val (.ref a1), .val (.int (4 : Int32)), .val (.int i), s5] [(.int i)])) _
        refine XS.iloadN X22.here hx rfl (hb hby d9_17) rfl ?_
        show Steps p.tables e below (T22.setTop (mkF m 18 #[.val (.ref a1), .val (.ref ad17), .val (.ref a1), .val (.int (4 : Int32)), .val (.int i), s5] [(.int (4 : Int32)), (.int i)])) _
        exact k
      by_cases c18_26 : i < (4 : Int32)
      · refine OwnWp.step (U' := T22.setTop (mkF m 21 #[.val (.ref a1), .val (.ref ad17), .val (.ref a1), .val (.int (4 : Int32)), .val (.int i), s5] [])) (fun t k => ?_) ?_
        · show Steps p.tables e below (T22.setTop (mkF m 18 #[.val (.ref a1), .val (.ref ad17), .val (.ref a1), .val (.int (4 : Int32)), .val (.int i), s5] [(.int (4 : Int32)), (.int i)])) _
          refine XS.icmpNo X22.here hx rfl (hb hby d9_18) rfl (XT.ii_ge_f c18_26) ?_
          exact k
        have hlt : i.toInt < (4 : Int32).toInt := by rw [Int32.lt_iff_toInt_lt] at c18_26; exact c18_26
        rw [show (4 : Int32).toInt = 4 from rfl] at hlt
        exact absurd hi (by omega)
      · refine OwnWp.step (U' := T22.setTop (mkF m 44 #[.val (.ref a1), .val (.ref ad17), .val (.ref a1), .val (.int (4 : Int32)), .val (.int i), s5] [])) (fun t k => ?_) ?_
        · show Steps p.tables e below (T22.setTop (mkF m 18 #[.val (.ref a1), .val (.ref ad17), .val (.ref a1), .val (.int (4 : Int32)), .val (.int i), s5] [(.int (4 : Int32)), (.int i)])) _
          refine XS.icmpYes X22.here hx rfl (pc0 := 18) (pc' := 44) rfl (hb hby d9_18) rfl (XT.ii_ge_t c18_26) (by decide) (by decide) ?_
          exact k
        have hlt : ¬ i.toInt < (4 : Int32).toInt := by rw [Int32.lt_iff_toInt_lt] at c18_26; exact c18_26
        rw [show (4 : Int32).toInt = 4 from rfl] at hlt
        refine OwnWp.step (U' := T22.setTop (mkF m 45 #[.val (.ref a1), .val (.ref ad17), .val (.ref a1), .val (.int (4 : Int32)), .val (.int i), s5] [(.ref ad17)])) (fun t k => ?_) ?_
        · show Steps p.tables e below (T22.setTop (mkF m 44 #[.val (.ref a1), .val (.ref ad17), .val (.ref a1), .val (.int (4 : Int32)), .val (.int i), s5] [])) _
          refine XS.aloadN X22.here hx rfl (hb hby d9_44) rfl rfl ?_
          show Steps p.tables e below (T22.setTop (mkF m 45 #[.val (.ref a1), .val (.ref ad17), .val (.ref a1), .val (.int (4 : Int32)), .val (.int i), s5] [(.ref ad17)])) _
          exact k
        refine OwnWp.retA X22 hx hlk Bd.returns rfl rfl (hb hby d9_45) (by decide) (by decide) ?_
        rw [e22]
        exact ⟨ad17, g, rfl, N22, b17, bk17, K25, f24, hG, own_grown_mem (by omega) hM, by rw [hC, show i.toInt.toNat = 4 from by omega]⟩
    | succ k ih =>
      intro T22 h22 L22 i s5 g X22 e22 N22 Z22 f23 f24 K25 hs5 hi hi0 hG hM hC
      refine OwnWp.step (U' := T22.setTop (mkF m 18 #[.val (.ref a1), .val (.ref ad17), .val (.ref a1), .val (.int (4 : Int32)), .val (.int i), s5] [(.int (4 : Int32)), (.int i)])) (fun t k => ?_) ?_
      · show Steps p.tables e below (T22.setTop (mkF m 15 #[.val (.ref a1), .val (.ref ad17), .val (.ref a1), .val (.int (4 : Int32)), .val (.int i), s5] [])) _
        refine XS.iload X22.here hx rfl (hb hby d9_15) rfl ?_
        show Steps p.tables e below (T22.setTop (mkF m 17 #[.val (.ref a1), .val (.ref ad17), .val (.ref a1), .val (.int (4 : Int32)), .val (.int i), s5] [(.int i)])) _
        refine XS.iloadN X22.here hx rfl (hb hby d9_17) rfl ?_
        show Steps p.tables e below (T22.setTop (mkF m 18 #[.val (.ref a1), .val (.ref ad17), .val (.ref a1), .val (.int (4 : Int32)), .val (.int i), s5] [(.int (4 : Int32)), (.int i)])) _
        exact k
      by_cases c18_27 : i < (4 : Int32)
      · refine OwnWp.step (U' := T22.setTop (mkF m 21 #[.val (.ref a1), .val (.ref ad17), .val (.ref a1), .val (.int (4 : Int32)), .val (.int i), s5] [])) (fun t k => ?_) ?_
        · show Steps p.tables e below (T22.setTop (mkF m 18 #[.val (.ref a1), .val (.ref ad17), .val (.ref a1), .val (.int (4 : Int32)), .val (.int i), s5] [(.int (4 : Int32)), (.int i)])) _
          refine XS.icmpNo X22.here hx rfl (hb hby d9_18) rfl (XT.ii_ge_f c18_27) ?_
          exact k
        have hlt : i.toInt < (4 : Int32).toInt := by rw [Int32.lt_iff_toInt_lt] at c18_27; exact c18_27
        rw [show (4 : Int32).toInt = 4 from rfl] at hlt
        obtain ⟨w1, qw1⟩ : ∃ z : Int32, z = (f i.toInt) := ⟨_, rfl⟩
        refine OwnWp.step (U' := T22.setTop (mkF m 27 #[.val (.ref a1), .val (.ref ad17), .val (.ref a1), .val (.int (4 : Int32)), .val (.int i), .val (.int w1)] [])) (fun t k => ?_) ?_
        · show Steps p.tables e below (T22.setTop (mkF m 21 #[.val (.ref a1), .val (.ref ad17), .val (.ref a1), .val (.int (4 : Int32)), .val (.int i), s5] [])) _
          refine XS.aloadN X22.here hx rfl (hb hby d9_21) rfl rfl ?_
          show Steps p.tables e below (T22.setTop (mkF m 22 #[.val (.ref a1), .val (.ref ad17), .val (.ref a1), .val (.int (4 : Int32)), .val (.int i), s5] [(.ref a1)])) _
          refine XS.iload X22.here hx rfl (hb hby d9_22) rfl ?_
          show Steps p.tables e below (T22.setTop (mkF m 24 #[.val (.ref a1), .val (.ref ad17), .val (.ref a1), .val (.int (4 : Int32)), .val (.int i), s5] [(.int i), (.ref a1)])) _
          refine OwnA.ldI X22 hx hZ e22 f23 hi0 (by rw [show (4 : Int32).toInt = 4 from rfl]; exact hlt) rfl rfl (hb hby d9_24) ?_
          show Steps p.tables e below (T22.setTop (mkF m 25 #[.val (.ref a1), .val (.ref ad17), .val (.ref a1), .val (.int (4 : Int32)), .val (.int i), s5] [(.int (f i.toInt))])) _
          refine XS.istoreS X22.here hx rfl (hb hby d9_25) rfl (o := s5) rfl hs5 ?_
          show Steps p.tables e below (T22.setTop (mkF m 27 #[.val (.ref a1), .val (.ref ad17), .val (.ref a1), .val (.int (4 : Int32)), .val (.int i), .val (.int (f i.toInt))] [])) _
          rw [qw1] at k
          exact k
        refine OwnWp.step (U' := T22.setTop (mkF m 29 #[.val (.ref a1), .val (.ref ad17), .val (.ref a1), .val (.int (4 : Int32)), .val (.int i), .val (.int w1)] [(.int w1)])) (fun t k => ?_) ?_
        · show Steps p.tables e below (T22.setTop (mkF m 27 #[.val (.ref a1), .val (.ref ad17), .val (.ref a1), .val (.int (4 : Int32)), .val (.int i), .val (.int w1)] [])) _
          refine XS.iload X22.here hx rfl (hb hby d9_27) rfl ?_
          show Steps p.tables e below (T22.setTop (mkF m 29 #[.val (.ref a1), .val (.ref ad17), .val (.ref a1), .val (.int (4 : Int32)), .val (.int i), .val (.int w1)] [(.int w1)])) _
          exact k
        by_cases c29_28 : w1 = (0 : Int32)
        · refine OwnWp.step (U' := T22.setTop (mkF m 38 #[.val (.ref a1), .val (.ref ad17), .val (.ref a1), .val (.int (4 : Int32)), .val (.int i), .val (.int w1)] [])) (fun t k => ?_) ?_
          · show Steps p.tables e below (T22.setTop (mkF m 29 #[.val (.ref a1), .val (.ref ad17), .val (.ref a1), .val (.int (4 : Int32)), .val (.int i), .val (.int w1)] [(.int w1)])) _
            refine XS.ifYes X22.here hx rfl (pc0 := 29) (pc' := 38) rfl (hb hby d9_29) rfl (XT.i0_eq_t c29_28) (by decide) (by decide) ?_
            exact k
          obtain ⟨w2, qw2⟩ : ∃ z : Int32, z = (i + (1 : Int32)) := ⟨_, rfl⟩
          refine OwnWp.step (U' := T22.setTop (mkF m 41 #[.val (.ref a1), .val (.ref ad17), .val (.ref a1), .val (.int (4 : Int32)), .val (.int w2), .val (.int w1)] [])) (fun t k => ?_) ?_
          · show Steps p.tables e below (T22.setTop (mkF m 38 #[.val (.ref a1), .val (.ref ad17), .val (.ref a1), .val (.int (4 : Int32)), .val (.int i), .val (.int w1)] [])) _
            refine XT.iincV X22.here hx rfl (1 : Int32) (hb hby d9_38) rfl rfl (l' := #[.val (.ref a1), .val (.ref ad17), .val (.ref a1), .val (.int (4 : Int32)), .val (.int (i + (1 : Int32))), .val (.int w1)]) rfl ?_
            show Steps p.tables e below (T22.setTop (mkF m 41 #[.val (.ref a1), .val (.ref ad17), .val (.ref a1), .val (.int (4 : Int32)), .val (.int (i + (1 : Int32))), .val (.int w1)] [])) _
            rw [qw2] at k
            exact k
          refine OwnWp.step (U' := T22.setTop (mkF m 15 #[.val (.ref a1), .val (.ref ad17), .val (.ref a1), .val (.int (4 : Int32)), .val (.int w2), .val (.int w1)] [])) (fun t k => ?_) ?_
          · show Steps p.tables e below (T22.setTop (mkF m 41 #[.val (.ref a1), .val (.ref ad17), .val (.ref a1), .val (.int (4 : Int32)), .val (.int w2), .val (.int w1)] [])) _
            refine XS.goto X22.here hx rfl (pc0 := 41) (pc' := 15) rfl (hb hby d9_41) (by decide) (by decide) ?_
            show Steps p.tables e below (T22.setTop (mkF m 15 #[.val (.ref a1), .val (.ref ad17), .val (.ref a1), .val (.int (4 : Int32)), .val (.int w2), .val (.int w1)] [])) _
            exact k
          obtain ⟨t1, t2, t3, t4⟩ := own_grow0 hi hi0 hM hC w2 (by rw [← qw1]; exact c29_28) qw2
          exact ih  T22 h22 _ w2 _ g X22 e22 N22 Z22 f23 f24 K25 (One.val rfl) t1 t2 hG t3 t4
        · refine OwnWp.step (U' := T22.setTop (mkF m 32 #[.val (.ref a1), .val (.ref ad17), .val (.ref a1), .val (.int (4 : Int32)), .val (.int i), .val (.int w1)] [])) (fun t k => ?_) ?_
          · show Steps p.tables e below (T22.setTop (mkF m 29 #[.val (.ref a1), .val (.ref ad17), .val (.ref a1), .val (.int (4 : Int32)), .val (.int i), .val (.int w1)] [(.int w1)])) _
            refine XS.ifNo X22.here hx rfl (hb hby d9_29) rfl (XT.i0_eq_f c29_28) ?_
            exact k
          refine OwnWp.step (U' := T22.setTop (mkF m 35 #[.val (.ref a1), .val (.ref ad17), .val (.ref a1), .val (.int (4 : Int32)), .val (.int i), .val (.int w1)] [(.int w1), (.ref ad17)])) (fun t k => ?_) ?_
          · show Steps p.tables e below (T22.setTop (mkF m 32 #[.val (.ref a1), .val (.ref ad17), .val (.ref a1), .val (.int (4 : Int32)), .val (.int i), .val (.int w1)] [])) _
            refine XS.aloadN X22.here hx rfl (hb hby d9_32) rfl rfl ?_
            show Steps p.tables e below (T22.setTop (mkF m 33 #[.val (.ref a1), .val (.ref ad17), .val (.ref a1), .val (.int (4 : Int32)), .val (.int i), .val (.int w1)] [(.ref ad17)])) _
            refine XS.iload X22.here hx rfl (hb hby d9_33) rfl ?_
            show Steps p.tables e below (T22.setTop (mkF m 35 #[.val (.ref a1), .val (.ref ad17), .val (.ref a1), .val (.int (4 : Int32)), .val (.int i), .val (.int w1)] [(.int w1), (.ref ad17)])) _
            exact k
          obtain ⟨_, _, ⟨T29, L29, k29, n29⟩, -, X29, ⟨Lc29, hQ29, l29, y29, z29⟩, st29⟩ := Jvm.LawKit.callS X22 hx (y := (⟨"com/example/utu/utu/SlotNumbers", "place", "([II)V"⟩ : MethodName)) hown (mvT hZ (hw _ (List.mem_of_getElem? (i := 45) rfl))) (mvT hZ (hw _ (List.mem_of_getElem? (i := 46) rfl))) (mvT hZ (hw _ (List.mem_of_getElem? (i := 9) rfl))) (mvT hZ (hw _ (List.mem_of_getElem? (i := 47) rfl))) (by decide) (backOf (W := 0) (rm10 l Z a0 hw [] ad17 w1 (8 : Int32) g h22 n0 Z22 b17 f24 (Or.inr rfl) (own_free 8 (own_room hC (by omega)))) hZ (hw _ (List.mem_of_getElem? (i := 47) rfl)) (hw _ (List.mem_of_getElem? (i := 9) rfl)) (by decide) (by decide)) (g := (mkF m 35 #[.val (.ref a1), .val (.ref ad17), .val (.ref a1), .val (.int (4 : Int32)), .val (.int i), .val (.int w1)] [(.int w1), (.ref ad17)])) rfl (by rw [hml]; rfl) (argsL := [(.ref ad17), (.int w1)]) (rest := []) (lenOf pd_10 rfl) rfl (by show 2 * 0 + _ ≤ _; exact Nat.le_of_eq rfl) (hb hby d9_35) (fun _ _ => ⟨rfl, e22, (by dsimp only [Pt.cells]; decide), (by dsimp only [Pt.slots]; decide)⟩)
          dsimp only [Pt.U, Pt.locs, Pt.cells, Pt.slots] at X29 l29 y29 z29 st29 hQ29
          subst l29 y29 z29
          obtain ⟨rfl, Nc29, Kc29, ⟨r29, hr29, ag29⟩⟩ := hQ29
          have N29 := Fr.app N22 Nc29
          refine OwnWp.step st29 ?_
          have Z29 : n0 ≤ T29.heap.size := Nat.le_trans Z22 Kc29.1
          have f30 := OwnA.keep f23 Kc29 (ninS ne17_18 nin0)
          have K32 := Keep.trans K25 Kc29 (allS (Or.inr bk17) all0)
          show OwnWp p e below s _ _ _ (T29.setTop (mkF m 38 #[.val (.ref a1), .val (.ref ad17), .val (.ref a1), .val (.int (4 : Int32)), .val (.int i), .val (.int w1)] []))
          obtain ⟨w2, qw2⟩ : ∃ z : Int32, z = (i + (1 : Int32)) := ⟨_, rfl⟩
          refine OwnWp.step (U' := T29.setTop (mkF m 41 #[.val (.ref a1), .val (.ref ad17), .val (.ref a1), .val (.int (4 : Int32)), .val (.int w2), .val (.int w1)] [])) (fun t k => ?_) ?_
          · show Steps p.tables e below (T29.setTop (mkF m 38 #[.val (.ref a1), .val (.ref ad17), .val (.ref a1), .val (.int (4 : Int32)), .val (.int i), .val (.int w1)] [])) _
            refine XT.iincV X29.here hx rfl (1 : Int32) (hb hby d9_38) rfl rfl (l' := #[.val (.ref a1), .val (.ref ad17), .val (.ref a1), .val (.int (4 : Int32)), .val (.int (i + (1 : Int32))), .val (.int w1)]) rfl ?_
            show Steps p.tables e below (T29.setTop (mkF m 41 #[.val (.ref a1), .val (.ref ad17), .val (.ref a1), .val (.int (4 : Int32)), .val (.int (i + (1 : Int32))), .val (.int w1)] [])) _
            rw [qw2] at k
            exact k
          refine OwnWp.step (U' := T29.setTop (mkF m 15 #[.val (.ref a1), .val (.ref ad17), .val (.ref a1), .val (.int (4 : Int32)), .val (.int w2), .val (.int w1)] [])) (fun t k => ?_) ?_
          · show Steps p.tables e below (T29.setTop (mkF m 41 #[.val (.ref a1), .val (.ref ad17), .val (.ref a1), .val (.int (4 : Int32)), .val (.int w2), .val (.int w1)] [])) _
            refine XS.goto X29.here hx rfl (pc0 := 41) (pc' := 15) rfl (hb hby d9_41) (by decide) (by decide) ?_
            show Steps p.tables e below (T29.setTop (mkF m 15 #[.val (.ref a1), .val (.ref ad17), .val (.ref a1), .val (.int (4 : Int32)), .val (.int w2), .val (.int w1)] [])) _
            exact k
          obtain ⟨t1, t2, t3, t4, t5⟩ := own_grow1 hT hi hi0 hG hM hC w2 (by rw [← qw1]; exact c29_28) (by rw [← qw1]; exact hr29) qw2
          rw [← qw1] at t3 t4 t5
          exact ih  T29 T29.heap _ w2 _ (ownUpd g r29 w1) X29 (rfl : T29.heap = T29.heap) N29 Z29 f30 ag29 K32 (One.val rfl) t1 t2 t3 t4 t5
      · refine OwnWp.step (U' := T22.setTop (mkF m 44 #[.val (.ref a1), .val (.ref ad17), .val (.ref a1), .val (.int (4 : Int32)), .val (.int i), s5] [])) (fun t k => ?_) ?_
        · show Steps p.tables e below (T22.setTop (mkF m 18 #[.val (.ref a1), .val (.ref ad17), .val (.ref a1), .val (.int (4 : Int32)), .val (.int i), s5] [(.int (4 : Int32)), (.int i)])) _
          refine XS.icmpYes X22.here hx rfl (pc0 := 18) (pc' := 44) rfl (hb hby d9_18) rfl (XT.ii_ge_t c18_27) (by decide) (by decide) ?_
          exact k
        have hlt : ¬ i.toInt < (4 : Int32).toInt := by rw [Int32.lt_iff_toInt_lt] at c18_27; exact c18_27
        rw [show (4 : Int32).toInt = 4 from rfl] at hlt
        exact absurd hi (by omega)
  exact hloop 4 T17 h17 _ (0 : Int32) _ (fun _ => (0 : Int32)) X17 e17 N0 Z17 f20 F21 K19 One.u (by decide) (by decide) (own_zero_tab 8) (own_grow_start f) (by rw [own_zero_cnt]; rfl)
theorem d4_0 : decode prog_29_method_3_code 0 = .ok (.aload_n 0, 1) := by decide +kernel
theorem d4_1 : decode prog_29_method_3_code 1 = .ok (.getfield 9, 3) := by decide +kernel
theorem d4_4 : decode prog_29_method_3_code 4 = .ok (.iload_n 1, 1) := by decide +kernel
theorem d4_5 : decode prog_29_method_3_code 5 = .ok (.invokestatic 21, 3) := by decide +kernel
theorem d4_8 : decode prog_29_method_3_code 8 = .ok (.istore_n 2, 1) := by decide +kernel
theorem d4_9 : decode prog_29_method_3_code 9 = .ok (.aload_n 0, 1) := by decide +kernel
theorem d4_10 : decode prog_29_method_3_code 10 = .ok (.getfield 9, 3) := by decide +kernel
theorem d4_13 : decode prog_29_method_3_code 13 = .ok (.iload_n 2, 1) := by decide +kernel
theorem d4_14 : decode prog_29_method_3_code 14 = .ok (.iaload, 1) := by decide +kernel
theorem d4_15 : decode prog_29_method_3_code 15 = .ok (.ifCond .ne 56, 3) := by decide +kernel
theorem d4_18 : decode prog_29_method_3_code 18 = .ok (.iconst 2, 1) := by decide +kernel
theorem d4_19 : decode prog_29_method_3_code 19 = .ok (.aload_n 0, 1) := by decide +kernel
theorem d4_20 : decode prog_29_method_3_code 20 = .ok (.getfield 17, 3) := by decide +kernel
theorem d4_23 : decode prog_29_method_3_code 23 = .ok (.iconst 1, 1) := by decide +kernel
theorem d4_24 : decode prog_29_method_3_code 24 = .ok (.iadd, 1) := by decide +kernel
theorem d4_25 : decode prog_29_method_3_code 25 = .ok (.imul, 1) := by decide +kernel
theorem d4_26 : decode prog_29_method_3_code 26 = .ok (.aload_n 0, 1) := by decide +kernel
theorem d4_27 : decode prog_29_method_3_code 27 = .ok (.getfield 9, 3) := by decide +kernel
theorem d4_30 : decode prog_29_method_3_code 30 = .ok (.arraylength, 1) := by decide +kernel
theorem d4_31 : decode prog_29_method_3_code 31 = .ok (.if_icmp .le 23, 3) := by decide +kernel
theorem d4_34 : decode prog_29_method_3_code 34 = .ok (.aload_n 0, 1) := by decide +kernel
theorem d4_35 : decode prog_29_method_3_code 35 = .ok (.aload_n 0, 1) := by decide +kernel
theorem d4_36 : decode prog_29_method_3_code 36 = .ok (.getfield 9, 3) := by decide +kernel
theorem d4_39 : decode prog_29_method_3_code 39 = .ok (.invokestatic 25, 3) := by decide +kernel
theorem d4_42 : decode prog_29_method_3_code 42 = .ok (.putfield 9, 3) := by decide +kernel
theorem d4_45 : decode prog_29_method_3_code 45 = .ok (.aload_n 0, 1) := by decide +kernel
theorem d4_46 : decode prog_29_method_3_code 46 = .ok (.getfield 9, 3) := by decide +kernel
theorem d4_49 : decode prog_29_method_3_code 49 = .ok (.iload_n 1, 1) := by decide +kernel
theorem d4_50 : decode prog_29_method_3_code 50 = .ok (.invokestatic 21, 3) := by decide +kernel
theorem d4_53 : decode prog_29_method_3_code 53 = .ok (.istore_n 2, 1) := by decide +kernel
theorem d4_54 : decode prog_29_method_3_code 54 = .ok (.aload_n 0, 1) := by decide +kernel
theorem d4_55 : decode prog_29_method_3_code 55 = .ok (.getfield 9, 3) := by decide +kernel
theorem d4_58 : decode prog_29_method_3_code 58 = .ok (.iload_n 2, 1) := by decide +kernel
theorem d4_59 : decode prog_29_method_3_code 59 = .ok (.iload_n 1, 1) := by decide +kernel
theorem d4_60 : decode prog_29_method_3_code 60 = .ok (.iastore, 1) := by decide +kernel
theorem d4_61 : decode prog_29_method_3_code 61 = .ok (.aload_n 0, 1) := by decide +kernel
theorem d4_62 : decode prog_29_method_3_code 62 = .ok (.dup, 1) := by decide +kernel
theorem d4_63 : decode prog_29_method_3_code 63 = .ok (.getfield 17, 3) := by decide +kernel
theorem d4_66 : decode prog_29_method_3_code 66 = .ok (.iconst 1, 1) := by decide +kernel
theorem d4_67 : decode prog_29_method_3_code 67 = .ok (.iadd, 1) := by decide +kernel
theorem d4_68 : decode prog_29_method_3_code 68 = .ok (.putfield 17, 3) := by decide +kernel
theorem d4_71 : decode prog_29_method_3_code 71 = .ok (.return_, 1) := by decide +kernel
theorem pn_4 : plainFor (⟨"com/example/utu/utu/SlotNumbers", "add", "(I)V"⟩ : MethodName) = true := plainFor_of_name (by first | (simp [plainName, overriddenIn]; done) | decide +kernel)
theorem pd_4 : parseMethodDescriptor "(I)V" = some ⟨[.int], none⟩ := by decide +kernel
theorem ef_4 (m : MethodId) (x0 : Addr) (x1 : Int32) : entryFrame m #[(.ref x0), (.int x1)] 3 = mkF m 0 #[.val (.ref x0), .val (.int x1), .unset] [] := by first | (simp [entryFrame, mkF, argsToLocals, Value.category, maxLocals]; done) | rfl
def Q4 (Z : State) (a1 : Addr) (p1 : Int32) (tb : Addr) (nn : Int32) (f : Int → Int32) (s0 : Int32) (h0 : Heap) (n0 : Nat) (v : Option Value) (h : Heap) (L : List Loc) : Prop := v = none ∧ Fr n0 L ∧ Keep h0 h [a1, tb] ∧ ∃ (tb' : Addr) (nn' : Int32) (f' : Int → Int32) (s' : Int32), n0 ≤ tb' ∧ (tb' = tb ∨ h0.size ≤ tb') ∧ Fld Z h a1 "com/example/utu/utu/SlotNumbers" "table" "[I" (.ref tb') ∧ Fld Z h a1 "com/example/utu/utu/SlotNumbers" "size" "I" (.int s') ∧ OwnA Z h tb' .int nn' (fun i => .int (f' i)) ∧ own_inv nn' f' s' ∧ s'.toInt ≤ s0.toInt + 1 ∧ ∀ y : Int32, y ≠ 0 → (own_mem nn'.toInt f' y ↔ (own_mem nn.toInt f y ∨ y = p1))
set_option maxRecDepth 65536 in
set_option maxHeartbeats 40000000 in
theorem rm4 (l : Launch) (Z : State) (a0 : Array Value) (hw : ∀ d ∈ tables_1, d.before a0 Z = true) (ws : List Jvm.Cond) (a1 : Addr) (p1 : Int32) (tb : Addr) (nn : Int32) (f : Int → Int32) (s0 : Int32) (h0 : Heap) (n0 : Nat) (Z0 : n0 ≤ h0.size) (g0 : n0 ≤ a1) (g1 : n0 ≤ tb) (ne0 : a1 ≠ tb) (E0 : Exa Z h0 a1 "com/example/utu/utu/SlotNumbers") (F0 : Fld Z h0 a1 "com/example/utu/utu/SlotNumbers" "table" "[I" (.ref tb)) (F1 : Fld Z h0 a1 "com/example/utu/utu/SlotNumbers" "size" "I" (.int s0)) (A0 : OwnA Z h0 tb .int nn (fun i => .int (f i))) (hI : own_inv nn f s0) (hs3 : s0.toInt ≤ 3) (hx1 : p1 ≠ 0) :
    MetFree l (⟨"com/example/utu/utu/SlotNumbers", "add", "(I)V"⟩ : MethodName) (head1 (Jvm.Cond.code (⟨"com/example/utu/utu/SlotNumbers", "add", "(I)V"⟩ : MethodName) prog_29_method_3_code 3 none :: ws) ({ frames := 6, cells := 1, slots := 8, locals := 88 } : Room)) (fun a U => a = #[(.ref a1), (.int p1)] ∧ Z.Warmed39 U.vm ∧ U.heap = h0) (fun _ _ _ _ _ => True) (fun _ U oc U' => ∃ v L, oc = .returned v ∧ Q4 Z a1 p1 tb nn f s0 h0 n0 v U'.heap L ∧ FrameEnd U oc U' L ({ frames := 6, cells := 1, slots := 8, locals := 88 } : Room).cells ({ frames := 6, cells := 1, slots := 8, locals := 88 } : Room).slots) := by
  refine MetFree.of_bodySF pn_4 hisR ?_
  intro p e s m args below meth c s₁ Bd hml0 hP hK
  obtain ⟨rfl, hZ, hh⟩ := hP
  have hx := Bd.exec
  have hby := Bd.bytes
  have hlk := BodyLoose.notSynchronized Bd
  have hml : c.maxLocals = 3 := hml0
  have hown : s.vm.findClass "com/example/utu/utu/SlotNumbers" = some m.cls := findClass_of_methodNamed Bd.named
  have hnm := (name_of_methodNamed Bd.named Bd.method).1
  have X0 : Stand p l e ({ frames := 6, cells := 1, slots := 8, locals := 88 } : Room) s m #[(.ref a1), (.int p1)] below meth c s₁ [] 0 0 := Stand.of_body Bd
  have e0 : s₁.heap = h0 := by rw [← hh, Bd.state]; rfl
  have N0 := Fr.nil n0
  show OwnWp p e below s ({ frames := 6, cells := 1, slots := 8, locals := 88 } : Room).cells ({ frames := 6, cells := 1, slots := 8, locals := 88 } : Room).slots (Q4 Z a1 p1 tb nn f s0 h0 n0) (s₁.setTop (entryFrame m #[(.ref a1), (.int p1)] 3))
  refine OwnWp.cast (ef_4 m a1 p1) ?_
  show OwnWp p e below s _ _ _ (s₁.setTop (mkF m 0 #[.val (.ref a1), .val (.int p1), .unset] []))
  have K0 := Keep.refl h0 [a1, tb]
  refine OwnWp.step (U' := s₁.setTop (mkF m 1 #[.val (.ref a1), .val (.int p1), .unset] [(.ref a1)])) (fun t k => ?_) ?_
  · show Steps p.tables e below (s₁.setTop (mkF m 0 #[.val (.ref a1), .val (.int p1), .unset] [])) _
    refine XS.aloadN X0.here hx rfl (hb hby d4_0) rfl rfl ?_
    show Steps p.tables e below (s₁.setTop (mkF m 1 #[.val (.ref a1), .val (.int p1), .unset] [(.ref a1)])) _
    exact k
  obtain ⟨T33, X33, e33, st33⟩ := getF X0 hx hZ hown (host := "") (Or.inl (hw _ (List.mem_of_getElem? (i := 16) rfl))) Via.refl e0 F0 (g := (mkF m 1 #[.val (.ref a1), .val (.int p1), .unset] [(.ref a1)])) rfl rfl (hb hby d4_1)
  refine OwnWp.step st33 ?_
  show OwnWp p e below s _ _ _ (T33.setTop (mkF m 4 #[.val (.ref a1), .val (.int p1), .unset] [(.ref tb)]))
  refine OwnWp.step (U' := T33.setTop (mkF m 5 #[.val (.ref a1), .val (.int p1), .unset] [(.int p1), (.ref tb)])) (fun t k => ?_) ?_
  · show Steps p.tables e below (T33.setTop (mkF m 4 #[.val (.ref a1), .val (.int p1), .unset] [(.ref tb)])) _
    refine XS.iloadN X33.here hx rfl (hb hby d4_4) rfl ?_
    show Steps p.tables e below (T33.setTop (mkF m 5 #[.val (.ref a1), .val (.int p1), .unset] [(.int p1), (.ref tb)])) _
    exact k
  obtain ⟨_, _, ⟨T34, L34, k34, n34⟩, -, X34, ⟨Lc34, hQ34, l34, y34, z34⟩, st34⟩ := Jvm.LawKit.callS X33 hx (y := (⟨"com/example/utu/utu/SlotNumbers", "find", "([II)I"⟩ : MethodName)) hown (mvT hZ (hw _ (List.mem_of_getElem? (i := 23) rfl))) (mvT hZ (hw _ (List.mem_of_getElem? (i := 24) rfl))) (mvT hZ (hw _ (List.mem_of_getElem? (i := 9) rfl))) (mvT hZ (hw _ (List.mem_of_getElem? (i := 25) rfl))) (by decide) (backOf (W := 0) (rm5 l Z a0 hw [] tb p1 nn f h0 n0 Z0 A0 hI.1 (own_invfree hI hs3)) hZ (hw _ (List.mem_of_getElem? (i := 25) rfl)) (hw _ (List.mem_of_getElem? (i := 9) rfl)) (by decide) (by decide)) (g := (mkF m 5 #[.val (.ref a1), .val (.int p1), .unset] [(.int p1), (.ref tb)])) rfl (by rw [hml]; rfl) (argsL := [(.ref tb), (.int p1)]) (rest := []) (lenOf pd_5 rfl) rfl (by show 2 * 0 + _ ≤ _; exact Nat.le_of_eq rfl) (hb hby d4_5) (fun _ _ => ⟨rfl, e33, (by dsimp only [Pt.cells]; decide), (by dsimp only [Pt.slots]; decide)⟩)
  dsimp only [Pt.U, Pt.locs, Pt.cells, Pt.slots] at X34 l34 y34 z34 st34 hQ34
  subst l34 y34 z34
  obtain ⟨d34, rfl, Nc34, hp34, hd34⟩ := hQ34
  have N34 := Fr.app N0 Nc34
  refine OwnWp.step st34 ?_
  have eh34 : T34.heap = h0 := hp34
  show OwnWp p e below s _ _ _ (T34.setTop (mkF m 8 #[.val (.ref a1), .val (.int p1), .unset] [(.int d34)]))
  refine OwnWp.step (U' := T34.setTop (mkF m 10 #[.val (.ref a1), .val (.int p1), .val (.int d34)] [(.ref a1)])) (fun t k => ?_) ?_
  · show Steps p.tables e below (T34.setTop (mkF m 8 #[.val (.ref a1), .val (.int p1), .unset] [(.int d34)])) _
    refine XS.istoreN X34.here hx rfl (hb hby d4_8) rfl (l' := #[.val (.ref a1), .val (.int p1), .val (.int d34)]) rfl ?_
    show Steps p.tables e below (T34.setTop (mkF m 9 #[.val (.ref a1), .val (.int p1), .val (.int d34)] [])) _
    refine XS.aloadN X34.here hx rfl (hb hby d4_9) rfl rfl ?_
    show Steps p.tables e below (T34.setTop (mkF m 10 #[.val (.ref a1), .val (.int p1), .val (.int d34)] [(.ref a1)])) _
    exact k
  obtain ⟨T35, X35, e35, st35⟩ := getF X34 hx hZ hown (host := "") (Or.inl (hw _ (List.mem_of_getElem? (i := 16) rfl))) Via.refl eh34 F0 (g := (mkF m 10 #[.val (.ref a1), .val (.int p1), .val (.int d34)] [(.ref a1)])) rfl rfl (hb hby d4_10)
  refine OwnWp.step st35 ?_
  show OwnWp p e below s _ _ _ (T35.setTop (mkF m 13 #[.val (.ref a1), .val (.int p1), .val (.int d34)] [(.ref tb)]))
  refine OwnWp.step (U' := T35.setTop (mkF m 15 #[.val (.ref a1), .val (.int p1), .val (.int d34)] [(.int (f d34.toInt))])) (fun t k => ?_) ?_
  · show Steps p.tables e below (T35.setTop (mkF m 13 #[.val (.ref a1), .val (.int p1), .val (.int d34)] [(.ref tb)])) _
    refine XS.iloadN X35.here hx rfl (hb hby d4_13) rfl ?_
    show Steps p.tables e below (T35.setTop (mkF m 14 #[.val (.ref a1), .val (.int p1), .val (.int d34)] [(.int d34), (.ref tb)])) _
    refine OwnA.ldI X35 hx hZ e35 A0 (own_found_rng hI.1 hd34).1 (own_found_rng hI.1 hd34).2 rfl rfl (hb hby d4_14) ?_
    show Steps p.tables e below (T35.setTop (mkF m 15 #[.val (.ref a1), .val (.int p1), .val (.int d34)] [(.int (f d34.toInt))])) _
    exact k
  by_cases c15_36 : (f d34.toInt) = (0 : Int32)
  · refine OwnWp.step (U' := T35.setTop (mkF m 18 #[.val (.ref a1), .val (.int p1), .val (.int d34)] [])) (fun t k => ?_) ?_
    · show Steps p.tables e below (T35.setTop (mkF m 15 #[.val (.ref a1), .val (.int p1), .val (.int d34)] [(.int (f d34.toInt))])) _
      refine XS.ifNo X35.here hx rfl (hb hby d4_15) rfl (XT.i0_ne_f c15_36) ?_
      exact k
    refine OwnWp.step (U' := T35.setTop (mkF m 20 #[.val (.ref a1), .val (.int p1), .val (.int d34)] [(.ref a1), (.int (2 : Int32))])) (fun t k => ?_) ?_
    · show Steps p.tables e below (T35.setTop (mkF m 18 #[.val (.ref a1), .val (.int p1), .val (.int d34)] [])) _
      refine XT.iconstV X35.here hx rfl (2 : Int32) (hb hby d4_18) rfl ?_
      show Steps p.tables e below (T35.setTop (mkF m 19 #[.val (.ref a1), .val (.int p1), .val (.int d34)] [(.int (2 : Int32))])) _
      refine XS.aloadN X35.here hx rfl (hb hby d4_19) rfl rfl ?_
      show Steps p.tables e below (T35.setTop (mkF m 20 #[.val (.ref a1), .val (.int p1), .val (.int d34)] [(.ref a1), (.int (2 : Int32))])) _
      exact k
    obtain ⟨T37, X37, e37, st37⟩ := getF X35 hx hZ hown (host := "") (Or.inl (hw _ (List.mem_of_getElem? (i := 39) rfl))) Via.refl e35 F1 (g := (mkF m 20 #[.val (.ref a1), .val (.int p1), .val (.int d34)] [(.ref a1), (.int (2 : Int32))])) rfl rfl (hb hby d4_20)
    refine OwnWp.step st37 ?_
    show OwnWp p e below s _ _ _ (T37.setTop (mkF m 23 #[.val (.ref a1), .val (.int p1), .val (.int d34)] [(.int s0), (.int (2 : Int32))]))
    refine OwnWp.step (U' := T37.setTop (mkF m 27 #[.val (.ref a1), .val (.int p1), .val (.int d34)] [(.ref a1), (.int ((2 : Int32) * (s0 + (1 : Int32))))])) (fun t k => ?_) ?_
    · show Steps p.tables e below (T37.setTop (mkF m 23 #[.val (.ref a1), .val (.int p1), .val (.int d34)] [(.int s0), (.int (2 : Int32))])) _
      refine XT.iconstV X37.here hx rfl (1 : Int32) (hb hby d4_23) rfl ?_
      show Steps p.tables e below (T37.setTop (mkF m 24 #[.val (.ref a1), .val (.int p1), .val (.int d34)] [(.int (1 : Int32)), (.int s0), (.int (2 : Int32))])) _
      refine XS.iadd X37.here hx rfl (hb hby d4_24) rfl ?_
      show Steps p.tables e below (T37.setTop (mkF m 25 #[.val (.ref a1), .val (.int p1), .val (.int d34)] [(.int (s0 + (1 : Int32))), (.int (2 : Int32))])) _
      refine XS.imul X37.here hx rfl (hb hby d4_25) rfl ?_
      show Steps p.tables e below (T37.setTop (mkF m 26 #[.val (.ref a1), .val (.int p1), .val (.int d34)] [(.int ((2 : Int32) * (s0 + (1 : Int32))))])) _
      refine XS.aloadN X37.here hx rfl (hb hby d4_26) rfl rfl ?_
      show Steps p.tables e below (T37.setTop (mkF m 27 #[.val (.ref a1), .val (.int p1), .val (.int d34)] [(.ref a1), (.int ((2 : Int32) * (s0 + (1 : Int32))))])) _
      exact k
    obtain ⟨T38, X38, e38, st38⟩ := getF X37 hx hZ hown (host := "") (Or.inl (hw _ (List.mem_of_getElem? (i := 16) rfl))) Via.refl e37 F0 (g := (mkF m 27 #[.val (.ref a1), .val (.int p1), .val (.int d34)] [(.ref a1), (.int ((2 : Int32) * (s0 + (1 : Int32))))])) rfl rfl (hb hby d4_27)
    refine OwnWp.step st38 ?_
    show OwnWp p e below s _ _ _ (T38.setTop (mkF m 30 #[.val (.ref a1), .val (.int p1), .val (.int d34)] [(.ref tb), (.int ((2 : Int32) * (s0 + (1 : Int32))))]))
    refine OwnWp.step (U' := T38.setTop (mkF m 31 #[.val (.ref a1), .val (.int p1), .val (.int d34)] [(.int nn), (.int ((2 : Int32) * (s0 + (1 : Int32))))])) (fun t k => ?_) ?_
    · show Steps p.tables e below (T38.setTop (mkF m 30 #[.val (.ref a1), .val (.int p1), .val (.int d34)] [(.ref tb), (.int ((2 : Int32) * (s0 + (1 : Int32))))])) _
      refine OwnA.alen X38 hx hZ e38 A0 rfl rfl (hb hby d4_30) ?_
      show Steps p.tables e below (T38.setTop (mkF m 31 #[.val (.ref a1), .val (.int p1), .val (.int d34)] [(.int nn), (.int ((2 : Int32) * (s0 + (1 : Int32))))])) _
      exact k
    by_cases c31_39 : nn < ((2 : Int32) * (s0 + (1 : Int32)))
    · refine OwnWp.step (U' := T38.setTop (mkF m 34 #[.val (.ref a1), .val (.int p1), .val (.int d34)] [])) (fun t k => ?_) ?_
      · show Steps p.tables e below (T38.setTop (mkF m 31 #[.val (.ref a1), .val (.int p1), .val (.int d34)] [(.int nn), (.int ((2 : Int32) * (s0 + (1 : Int32))))])) _
        refine XS.icmpNo X38.here hx rfl (hb hby d4_31) rfl (XT.ii_le_f c31_39) ?_
        exact k
      have hn4 : nn = 4 := own_is4 hI hs3 c31_39
      subst hn4
      refine OwnWp.step (U' := T38.setTop (mkF m 36 #[.val (.ref a1), .val (.int p1), .val (.int d34)] [(.ref a1), (.ref a1)])) (fun t k => ?_) ?_
      · show Steps p.tables e below (T38.setTop (mkF m 34 #[.val (.ref a1), .val (.int p1), .val (.int d34)] [])) _
        refine XS.aloadN X38.here hx rfl (hb hby d4_34) rfl rfl ?_
        show Steps p.tables e below (T38.setTop (mkF m 35 #[.val (.ref a1), .val (.int p1), .val (.int d34)] [(.ref a1)])) _
        refine XS.aloadN X38.here hx rfl (hb hby d4_35) rfl rfl ?_
        show Steps p.tables e below (T38.setTop (mkF m 36 #[.val (.ref a1), .val (.int p1), .val (.int d34)] [(.ref a1), (.ref a1)])) _
        exact k
      obtain ⟨T40, X40, e40, st40⟩ := getF X38 hx hZ hown (host := "") (Or.inl (hw _ (List.mem_of_getElem? (i := 16) rfl))) Via.refl e38 F0 (g := (mkF m 36 #[.val (.ref a1), .val (.int p1), .val (.int d34)] [(.ref a1), (.ref a1)])) rfl rfl (hb hby d4_36)
      refine OwnWp.step st40 ?_
      show OwnWp p e below s _ _ _ (T40.setTop (mkF m 39 #[.val (.ref a1), .val (.int p1), .val (.int d34)] [(.ref tb), (.ref a1)]))
      obtain ⟨_, _, ⟨T41, L41, k41, n41⟩, -, X41, ⟨Lc41, hQ41, l41, y41, z41⟩, st41⟩ := Jvm.LawKit.callS X40 hx (y := (⟨"com/example/utu/utu/SlotNumbers", "grown", "([I)[I"⟩ : MethodName)) hown (mvT hZ (hw _ (List.mem_of_getElem? (i := 42) rfl))) (mvT hZ (hw _ (List.mem_of_getElem? (i := 43) rfl))) (mvT hZ (hw _ (List.mem_of_getElem? (i := 9) rfl))) (mvT hZ (hw _ (List.mem_of_getElem? (i := 44) rfl))) (by decide) (backOf (W := 1) (rm9 l Z a0 hw [] tb f h0 n0 Z0 A0 hI.2.1.1) hZ (hw _ (List.mem_of_getElem? (i := 44) rfl)) (hw _ (List.mem_of_getElem? (i := 9) rfl)) (by decide) (by decide)) (g := (mkF m 39 #[.val (.ref a1), .val (.int p1), .val (.int d34)] [(.ref tb), (.ref a1)])) rfl (by rw [hml]; rfl) (argsL := [(.ref tb)]) (rest := [(.ref a1)]) (lenOf pd_9 rfl) rfl (by show 2 * 0 + _ ≤ _; exact Nat.le_of_eq rfl) (hb hby d4_39) (fun _ _ => ⟨rfl, e40, (by dsimp only [Pt.cells]; decide), (by dsimp only [Pt.slots]; decide)⟩)
      dsimp only [Pt.U, Pt.locs, Pt.cells, Pt.slots] at X41 l41 y41 z41 st41 hQ41
      subst l41 y41 z41
      obtain ⟨b41, g41, rfl, Nc41, lb41, sb41, Kc41, ab41, ht41, hm41, hc41⟩ := hQ41
      have N41 := Fr.app N34 Nc41
      refine OwnWp.step st41 ?_
      have Z41 : n0 ≤ T41.heap.size := Nat.le_trans Z0 Kc41.1
      have f42 := Exa.keep E0 Kc41
      have f43 := Fld.keep F0 Kc41 nin0
      have f44 := Fld.keep F1 Kc41 nin0
      have f45 := OwnA.keep A0 Kc41 nin0
      have K46 := Keep.trans K0 Kc41 all0
      show OwnWp p e below s _ _ _ (T41.setTop (mkF m 42 #[.val (.ref a1), .val (.int p1), .val (.int d34)] [(.ref b41), (.ref a1)]))
      have nb41 : a1 ≠ b41 := Nat.ne_of_lt (Nat.lt_of_lt_of_le (E0).lt sb41)
      have nt41 : tb ≠ b41 := Nat.ne_of_lt (Nat.lt_of_lt_of_le (A0).lt sb41)
      obtain ⟨T47, h47, X47, e47, W47, st47⟩ := putF X41 hx hZ hown (host := "") (Or.inl (hw _ (List.mem_of_getElem? (i := 16) rfl))) Via.refl (rfl : T41.heap = T41.heap) f43 f42 (Or.inl (hw _ (List.mem_of_getElem? (i := 17) rfl))) (hw _ (List.mem_of_getElem? (i := 8) rfl)) (ty := (.array .int)) (by decide) rfl rfl (g := (mkF m 42 #[.val (.ref a1), .val (.int p1), .val (.int d34)] [(.ref b41), (.ref a1)])) rfl rfl (hb hby d4_42)
      have N47 := own_frs (sl := Jvm.RoadKit.slotOf Z "com/example/utu/utu/SlotNumbers" "table" "[I") N41 g0
      have Z47 : n0 ≤ h47.size := by rw [W47.size]; exact Z41
      refine OwnWp.step st47 ?_
      have f48 := Exa.wr W47 f42
      have f49 := Fld.same W47 f43
      have f50 := Fld.other W47 f44 (Or.inr (slot_ne (C := "com/example/utu/utu/SlotNumbers") (Or.inl (hw _ (List.mem_of_getElem? (i := 40) rfl))) (Or.inl (hw _ (List.mem_of_getElem? (i := 17) rfl))) (by decide) (t := .int) (t' := (.array .int)) (by decide) (by decide)))
      have f51 := OwnA.other f45 W47 ne0.symm
      have f52 := OwnA.other ab41 W47 nb41.symm
      have K53 := Keep.wr K46 W47 (Or.inl (List.mem_of_getElem? (i := 0) rfl))
      show OwnWp p e below s _ _ _ (T47.setTop (mkF m 45 #[.val (.ref a1), .val (.int p1), .val (.int d34)] []))
      refine OwnWp.step (U' := T47.setTop (mkF m 46 #[.val (.ref a1), .val (.int p1), .val (.int d34)] [(.ref a1)])) (fun t k => ?_) ?_
      · show Steps p.tables e below (T47.setTop (mkF m 45 #[.val (.ref a1), .val (.int p1), .val (.int d34)] [])) _
        refine XS.aloadN X47.here hx rfl (hb hby d4_45) rfl rfl ?_
        show Steps p.tables e below (T47.setTop (mkF m 46 #[.val (.ref a1), .val (.int p1), .val (.int d34)] [(.ref a1)])) _
        exact k
      obtain ⟨T54, X54, e54, st54⟩ := getF X47 hx hZ hown (host := "") (Or.inl (hw _ (List.mem_of_getElem? (i := 16) rfl))) Via.refl e47 f49 (g := (mkF m 46 #[.val (.ref a1), .val (.int p1), .val (.int d34)] [(.ref a1)])) rfl rfl (hb hby d4_46)
      refine OwnWp.step st54 ?_
      show OwnWp p e below s _ _ _ (T54.setTop (mkF m 49 #[.val (.ref a1), .val (.int p1), .val (.int d34)] [(.ref b41)]))
      refine OwnWp.step (U' := T54.setTop (mkF m 50 #[.val (.ref a1), .val (.int p1), .val (.int d34)] [(.int p1), (.ref b41)])) (fun t k => ?_) ?_
      · show Steps p.tables e below (T54.setTop (mkF m 49 #[.val (.ref a1), .val (.int p1), .val (.int d34)] [(.ref b41)])) _
        refine XS.iloadN X54.here hx rfl (hb hby d4_49) rfl ?_
        show Steps p.tables e below (T54.setTop (mkF m 50 #[.val (.ref a1), .val (.int p1), .val (.int d34)] [(.int p1), (.ref b41)])) _
        exact k
      obtain ⟨_, _, ⟨T55, L55, k55, n55⟩, -, X55, ⟨Lc55, hQ55, l55, y55, z55⟩, st55⟩ := Jvm.LawKit.callS X54 hx (y := (⟨"com/example/utu/utu/SlotNumbers", "find", "([II)I"⟩ : MethodName)) hown (mvT hZ (hw _ (List.mem_of_getElem? (i := 23) rfl))) (mvT hZ (hw _ (List.mem_of_getElem? (i := 24) rfl))) (mvT hZ (hw _ (List.mem_of_getElem? (i := 9) rfl))) (mvT hZ (hw _ (List.mem_of_getElem? (i := 25) rfl))) (by decide) (backOf (W := 0) (rm5 l Z a0 hw [] b41 p1 (8 : Int32) g41 h47 n0 Z47 f52 (Or.inr rfl) (own_free 8 (by rw [hc41]; have := own_cnt_le (f := f) 4; omega))) hZ (hw _ (List.mem_of_getElem? (i := 25) rfl)) (hw _ (List.mem_of_getElem? (i := 9) rfl)) (by decide) (by decide)) (g := (mkF m 50 #[.val (.ref a1), .val (.int p1), .val (.int d34)] [(.int p1), (.ref b41)])) rfl (by rw [hml]; rfl) (argsL := [(.ref b41), (.int p1)]) (rest := []) (lenOf pd_5 rfl) rfl (by show 2 * 0 + _ ≤ _; exact Nat.le_of_eq rfl) (hb hby d4_50) (fun _ _ => ⟨rfl, e54, (by dsimp only [Pt.cells]; decide), (by dsimp only [Pt.slots]; decide)⟩)
      dsimp only [Pt.U, Pt.locs, Pt.cells, Pt.slots] at X55 l55 y55 z55 st55 hQ55
      subst l55 y55 z55
      obtain ⟨d55, rfl, Nc55, hp55, hd55⟩ := hQ55
      have N55 := Fr.app N47 Nc55
      refine OwnWp.step st55 ?_
      have eh55 : T55.heap = h47 := hp55
      show OwnWp p e below s _ _ _ (T55.setTop (mkF m 53 #[.val (.ref a1), .val (.int p1), .val (.int d34)] [(.int d55)]))
      refine OwnWp.step (U' := T55.setTop (mkF m 54 #[.val (.ref a1), .val (.int p1), .val (.int d55)] [])) (fun t k => ?_) ?_
      · show Steps p.tables e below (T55.setTop (mkF m 53 #[.val (.ref a1), .val (.int p1), .val (.int d34)] [(.int d55)])) _
        refine XS.istoreN X55.here hx rfl (hb hby d4_53) rfl (l' := #[.val (.ref a1), .val (.int p1), .val (.int d55)]) rfl ?_
        show Steps p.tables e below (T55.setTop (mkF m 54 #[.val (.ref a1), .val (.int p1), .val (.int d55)] [])) _
        exact k
      refine OwnWp.step (U' := T55.setTop (mkF m 55 #[.val (.ref a1), .val (.int p1), .val (.int d55)] [(.ref a1)])) (fun t k => ?_) ?_
      · show Steps p.tables e below (T55.setTop (mkF m 54 #[.val (.ref a1), .val (.int p1), .val (.int d55)] [])) _
        refine XS.aloadN X55.here hx rfl (hb hby d4_54) rfl rfl ?_
        show Steps p.tables e below (T55.setTop (mkF m 55 #[.val (.ref a1), .val (.int p1), .val (.int d55)] [(.ref a1)])) _
        exact k
      obtain ⟨T56, X56, e56, st56⟩ := getF X55 hx hZ hown (host := "") (Or.inl (hw _ (List.mem_of_getElem? (i := 16) rfl))) Via.refl eh55 f49 (g := (mkF m 55 #[.val (.ref a1), .val (.int p1), .val (.int d55)] [(.ref a1)])) rfl rfl (hb hby d4_55)
      refine OwnWp.step st56 ?_
      show OwnWp p e below s _ _ _ (T56.setTop (mkF m 58 #[.val (.ref a1), .val (.int p1), .val (.int d55)] [(.ref b41)]))
      refine OwnWp.step (U' := T56.setTop (mkF m 60 #[.val (.ref a1), .val (.int p1), .val (.int d55)] [(.int p1), (.int d55), (.ref b41)])) (fun t k => ?_) ?_
      · show Steps p.tables e below (T56.setTop (mkF m 58 #[.val (.ref a1), .val (.int p1), .val (.int d55)] [(.ref b41)])) _
        refine XS.iloadN X56.here hx rfl (hb hby d4_58) rfl ?_
        show Steps p.tables e below (T56.setTop (mkF m 59 #[.val (.ref a1), .val (.int p1), .val (.int d55)] [(.int d55), (.ref b41)])) _
        refine XS.iloadN X56.here hx rfl (hb hby d4_59) rfl ?_
        show Steps p.tables e below (T56.setTop (mkF m 60 #[.val (.ref a1), .val (.int p1), .val (.int d55)] [(.int p1), (.int d55), (.ref b41)])) _
        exact k
      obtain ⟨T57, h57, L57, X57, e57, N57, K57, F57, st57⟩ := OwnA.stI X56 hx hZ e56 N55 lb41 f52 (own_found_rng (Or.inr rfl) hd55).1 (own_found_rng (Or.inr rfl) hd55).2 (g := (mkF m 60 #[.val (.ref a1), .val (.int p1), .val (.int d55)] [(.int p1), (.int d55), (.ref b41)])) rfl rfl (hb hby d4_60)
      refine OwnWp.step st57 ?_
      have Z57 : n0 ≤ h57.size := Nat.le_trans Z47 K57.1
      have f58 := Exa.keep f48 K57
      have f59 := Fld.keep f49 K57 (ninS nb41 nin0)
      have f60 := Fld.keep f50 K57 (ninS nb41 nin0)
      have f61 := OwnA.keep f51 K57 (ninS nt41 nin0)
      have F62 : OwnA Z h57 b41 .int (8 : Int32) (fun zi => .int ((ownUpd g41 d55.toInt p1) zi)) := F57.congr (fun zi _ _ => by exact ownUpd_int g41 _ _ zi)
      have K63 := Keep.trans K53 K57 (allS (Or.inr sb41) all0)
      show OwnWp p e below s _ _ _ (T57.setTop (mkF m 61 #[.val (.ref a1), .val (.int p1), .val (.int d55)] []))
      refine OwnWp.step (U' := T57.setTop (mkF m 63 #[.val (.ref a1), .val (.int p1), .val (.int d55)] [(.ref a1), (.ref a1)])) (fun t k => ?_) ?_
      · show Steps p.tables e below (T57.setTop (mkF m 61 #[.val (.ref a1), .val (.int p1), .val (.int d55)] [])) _
        refine XS.aloadN X57.here hx rfl (hb hby d4_61) rfl rfl ?_
        show Steps p.tables e below (T57.setTop (mkF m 62 #[.val (.ref a1), .val (.int p1), .val (.int d55)] [(.ref a1)])) _
        refine XS.dup X57.here hx rfl (hb hby d4_62) rfl rfl ?_
        show Steps p.tables e below (T57.setTop (mkF m 63 #[.val (.ref a1), .val (.int p1), .val (.int d55)] [(.ref a1), (.ref a1)])) _
        exact k
      obtain ⟨T64, X64, e64, st64⟩ := getF X57 hx hZ hown (host := "") (Or.inl (hw _ (List.mem_of_getElem? (i := 39) rfl))) Via.refl e57 f60 (g := (mkF m 63 #[.val (.ref a1), .val (.int p1), .val (.int d55)] [(.ref a1), (.ref a1)])) rfl rfl (hb hby d4_63)
      refine OwnWp.step st64 ?_
      show OwnWp p e below s _ _ _ (T64.setTop (mkF m 66 #[.val (.ref a1), .val (.int p1), .val (.int d55)] [(.int s0), (.ref a1)]))
      refine OwnWp.step (U' := T64.setTop (mkF m 68 #[.val (.ref a1), .val (.int p1), .val (.int d55)] [(.int (s0 + (1 : Int32))), (.ref a1)])) (fun t k => ?_) ?_
      · show Steps p.tables e below (T64.setTop (mkF m 66 #[.val (.ref a1), .val (.int p1), .val (.int d55)] [(.int s0), (.ref a1)])) _
        refine XT.iconstV X64.here hx rfl (1 : Int32) (hb hby d4_66) rfl ?_
        show Steps p.tables e below (T64.setTop (mkF m 67 #[.val (.ref a1), .val (.int p1), .val (.int d55)] [(.int (1 : Int32)), (.int s0), (.ref a1)])) _
        refine XS.iadd X64.here hx rfl (hb hby d4_67) rfl ?_
        show Steps p.tables e below (T64.setTop (mkF m 68 #[.val (.ref a1), .val (.int p1), .val (.int d55)] [(.int (s0 + (1 : Int32))), (.ref a1)])) _
        exact k
      obtain ⟨T65, h65, X65, e65, W65, st65⟩ := putF X64 hx hZ hown (host := "") (Or.inl (hw _ (List.mem_of_getElem? (i := 39) rfl))) Via.refl e64 f60 f58 (Or.inl (hw _ (List.mem_of_getElem? (i := 40) rfl))) (hw _ (List.mem_of_getElem? (i := 8) rfl)) (ty := .int) (by decide) rfl rfl (g := (mkF m 68 #[.val (.ref a1), .val (.int p1), .val (.int d55)] [(.int (s0 + (1 : Int32))), (.ref a1)])) rfl rfl (hb hby d4_68)
      have N65 := own_frs (sl := Jvm.RoadKit.slotOf Z "com/example/utu/utu/SlotNumbers" "size" "I") N57 g0
      have Z65 : n0 ≤ h65.size := by rw [W65.size]; exact Z57
      refine OwnWp.step st65 ?_
      have f66 := Exa.wr W65 f58
      have f67 := Fld.other W65 f59 (Or.inr (slot_ne (C := "com/example/utu/utu/SlotNumbers") (Or.inl (hw _ (List.mem_of_getElem? (i := 17) rfl))) (Or.inl (hw _ (List.mem_of_getElem? (i := 40) rfl))) (by decide) (t := (.array .int)) (t' := .int) (by decide) (by decide)))
      have f68 := Fld.same W65 f60
      have f69 := OwnA.other f61 W65 ne0.symm
      have f70 := OwnA.other F62 W65 nb41.symm
      have K71 := Keep.wr K63 W65 (Or.inl (List.mem_of_getElem? (i := 0) rfl))
      show OwnWp p e below s _ _ _ (T65.setTop (mkF m 71 #[.val (.ref a1), .val (.int p1), .val (.int d55)] []))
      obtain ⟨i1, i2, i3⟩ := own_add_grow hI hs3 hx1 hd34 c15_36 c31_39 ht41 hm41 hc41 hd55
      refine OwnWp.retV X65 hx hlk Bd.returns (hb hby d4_71) (by decide) (by decide) ?_
      rw [e65]
      exact ⟨rfl, N65, K71, b41, (8 : Int32), _, _, lb41, (Or.inr sb41), f67, f68, f70, i1, i2, i3⟩
    · refine OwnWp.step (U' := T38.setTop (mkF m 54 #[.val (.ref a1), .val (.int p1), .val (.int d34)] [])) (fun t k => ?_) ?_
      · show Steps p.tables e below (T38.setTop (mkF m 31 #[.val (.ref a1), .val (.int p1), .val (.int d34)] [(.int nn), (.int ((2 : Int32) * (s0 + (1 : Int32))))])) _
        refine XS.icmpYes X38.here hx rfl (pc0 := 31) (pc' := 54) rfl (hb hby d4_31) rfl (XT.ii_le_t c31_39) (by decide) (by decide) ?_
        exact k
      refine OwnWp.step (U' := T38.setTop (mkF m 55 #[.val (.ref a1), .val (.int p1), .val (.int d34)] [(.ref a1)])) (fun t k => ?_) ?_
      · show Steps p.tables e below (T38.setTop (mkF m 54 #[.val (.ref a1), .val (.int p1), .val (.int d34)] [])) _
        refine XS.aloadN X38.here hx rfl (hb hby d4_54) rfl rfl ?_
        show Steps p.tables e below (T38.setTop (mkF m 55 #[.val (.ref a1), .val (.int p1), .val (.int d34)] [(.ref a1)])) _
        exact k
      obtain ⟨T72, X72, e72, st72⟩ := getF X38 hx hZ hown (host := "") (Or.inl (hw _ (List.mem_of_getElem? (i := 16) rfl))) Via.refl e38 F0 (g := (mkF m 55 #[.val (.ref a1), .val (.int p1), .val (.int d34)] [(.ref a1)])) rfl rfl (hb hby d4_55)
      refine OwnWp.step st72 ?_
      show OwnWp p e below s _ _ _ (T72.setTop (mkF m 58 #[.val (.ref a1), .val (.int p1), .val (.int d34)] [(.ref tb)]))
      refine OwnWp.step (U' := T72.setTop (mkF m 60 #[.val (.ref a1), .val (.int p1), .val (.int d34)] [(.int p1), (.int d34), (.ref tb)])) (fun t k => ?_) ?_
      · show Steps p.tables e below (T72.setTop (mkF m 58 #[.val (.ref a1), .val (.int p1), .val (.int d34)] [(.ref tb)])) _
        refine XS.iloadN X72.here hx rfl (hb hby d4_58) rfl ?_
        show Steps p.tables e below (T72.setTop (mkF m 59 #[.val (.ref a1), .val (.int p1), .val (.int d34)] [(.int d34), (.ref tb)])) _
        refine XS.iloadN X72.here hx rfl (hb hby d4_59) rfl ?_
        show Steps p.tables e below (T72.setTop (mkF m 60 #[.val (.ref a1), .val (.int p1), .val (.int d34)] [(.int p1), (.int d34), (.ref tb)])) _
        exact k
      obtain ⟨T73, h73, L73, X73, e73, N73, K73, F73, st73⟩ := OwnA.stI X72 hx hZ e72 N34 g1 A0 (own_found_rng hI.1 hd34).1 (own_found_rng hI.1 hd34).2 (g := (mkF m 60 #[.val (.ref a1), .val (.int p1), .val (.int d34)] [(.int p1), (.int d34), (.ref tb)])) rfl rfl (hb hby d4_60)
      refine OwnWp.step st73 ?_
      have Z73 : n0 ≤ h73.size := Nat.le_trans Z0 K73.1
      have f74 := Exa.keep E0 K73
      have f75 := Fld.keep F0 K73 (ninS ne0 nin0)
      have f76 := Fld.keep F1 K73 (ninS ne0 nin0)
      have F77 : OwnA Z h73 tb .int nn (fun zi => .int ((ownUpd f d34.toInt p1) zi)) := F73.congr (fun zi _ _ => by exact ownUpd_int f _ _ zi)
      have K78 := Keep.trans K0 K73 (allS (Or.inl (List.mem_of_getElem? (i := 1) rfl)) all0)
      show OwnWp p e below s _ _ _ (T73.setTop (mkF m 61 #[.val (.ref a1), .val (.int p1), .val (.int d34)] []))
      refine OwnWp.step (U' := T73.setTop (mkF m 63 #[.val (.ref a1), .val (.int p1), .val (.int d34)] [(.ref a1), (.ref a1)])) (fun t k => ?_) ?_
      · show Steps p.tables e below (T73.setTop (mkF m 61 #[.val (.ref a1), .val (.int p1), .val (.int d34)] [])) _
        refine XS.aloadN X73.here hx rfl (hb hby d4_61) rfl rfl ?_
        show Steps p.tables e below (T73.setTop (mkF m 62 #[.val (.ref a1), .val (.int p1), .val (.int d34)] [(.ref a1)])) _
        refine XS.dup X73.here hx rfl (hb hby d4_62) rfl rfl ?_
        show Steps p.tables e below (T73.setTop (mkF m 63 #[.val (.ref a1), .val (.int p1), .val (.int d34)] [(.ref a1), (.ref a1)])) _
        exact k
      obtain ⟨T79, X79, e79, st79⟩ := getF X73 hx hZ hown (host := "") (Or.inl (hw _ (List.mem_of_getElem? (i := 39) rfl))) Via.refl e73 f76 (g := (mkF m 63 #[.val (.ref a1), .val (.int p1), .val (.int d34)] [(.ref a1), (.ref a1)])) rfl rfl (hb hby d4_63)
      refine OwnWp.step st79 ?_
      show OwnWp p e below s _ _ _ (T79.setTop (mkF m 66 #[.val (.ref a1), .val (.int p1), .val (.int d34)] [(.int s0), (.ref a1)]))
      refine OwnWp.step (U' := T79.setTop (mkF m 68 #[.val (.ref a1), .val (.int p1), .val (.int d34)] [(.int (s0 + (1 : Int32))), (.ref a1)])) (fun t k => ?_) ?_
      · show Steps p.tables e below (T79.setTop (mkF m 66 #[.val (.ref a1), .val (.int p1), .val (.int d34)] [(.int s0), (.ref a1)])) _
        refine XT.iconstV X79.here hx rfl (1 : Int32) (hb hby d4_66) rfl ?_
        show Steps p.tables e below (T79.setTop (mkF m 67 #[.val (.ref a1), .val (.int p1), .val (.int d34)] [(.int (1 : Int32)), (.int s0), (.ref a1)])) _
        refine XS.iadd X79.here hx rfl (hb hby d4_67) rfl ?_
        show Steps p.tables e below (T79.setTop (mkF m 68 #[.val (.ref a1), .val (.int p1), .val (.int d34)] [(.int (s0 + (1 : Int32))), (.ref a1)])) _
        exact k
      obtain ⟨T80, h80, X80, e80, W80, st80⟩ := putF X79 hx hZ hown (host := "") (Or.inl (hw _ (List.mem_of_getElem? (i := 39) rfl))) Via.refl e79 f76 f74 (Or.inl (hw _ (List.mem_of_getElem? (i := 40) rfl))) (hw _ (List.mem_of_getElem? (i := 8) rfl)) (ty := .int) (by decide) rfl rfl (g := (mkF m 68 #[.val (.ref a1), .val (.int p1), .val (.int d34)] [(.int (s0 + (1 : Int32))), (.ref a1)])) rfl rfl (hb hby d4_68)
      have N80 := own_frs (sl := Jvm.RoadKit.slotOf Z "com/example/utu/utu/SlotNumbers" "size" "I") N73 g0
      have Z80 : n0 ≤ h80.size := by rw [W80.size]; exact Z73
      refine OwnWp.step st80 ?_
      have f81 := Exa.wr W80 f74
      have f82 := Fld.other W80 f75 (Or.inr (slot_ne (C := "com/example/utu/utu/SlotNumbers") (Or.inl (hw _ (List.mem_of_getElem? (i := 17) rfl))) (Or.inl (hw _ (List.mem_of_getElem? (i := 40) rfl))) (by decide) (t := (.array .int)) (t' := .int) (by decide) (by decide)))
      have f83 := Fld.same W80 f76
      have f84 := OwnA.other F77 W80 ne0.symm
      have K85 := Keep.wr K78 W80 (Or.inl (List.mem_of_getElem? (i := 0) rfl))
      show OwnWp p e below s _ _ _ (T80.setTop (mkF m 71 #[.val (.ref a1), .val (.int p1), .val (.int d34)] []))
      obtain ⟨i1, i2, i3⟩ := own_add_new hI hs3 hx1 hd34 c15_36 c31_39
      refine OwnWp.retV X80 hx hlk Bd.returns (hb hby d4_71) (by decide) (by decide) ?_
      rw [e80]
      exact ⟨rfl, N80, K85, tb, nn, _, _, g1, (Or.inl rfl), f82, f83, f84, i1, i2, i3⟩
  · refine OwnWp.step (U' := T35.setTop (mkF m 71 #[.val (.ref a1), .val (.int p1), .val (.int d34)] [])) (fun t k => ?_) ?_
    · show Steps p.tables e below (T35.setTop (mkF m 15 #[.val (.ref a1), .val (.int p1), .val (.int d34)] [(.int (f d34.toInt))])) _
      refine XS.ifYes X35.here hx rfl (pc0 := 15) (pc' := 71) rfl (hb hby d4_15) rfl (XT.i0_ne_t c15_36) (by decide) (by decide) ?_
      exact k
    refine OwnWp.retV X35 hx hlk Bd.returns (hb hby d4_71) (by decide) (by decide) ?_
    rw [e35]
    exact ⟨rfl, N34, K0, tb, nn, f, s0, g1, Or.inl rfl, F0, F1, A0, hI, by omega, own_add_same hI.1 hd34 c15_36⟩
theorem d2_0 : decode prog_29_method_1_code 0 = .ok (.aload_n 0, 1) := by decide +kernel
theorem d2_1 : decode prog_29_method_1_code 1 = .ok (.invokespecial 3, 3) := by decide +kernel
theorem d2_4 : decode prog_29_method_1_code 4 = .ok (.aload_n 0, 1) := by decide +kernel
theorem d2_5 : decode prog_29_method_1_code 5 = .ok (.iconst 4, 1) := by decide +kernel
theorem d2_6 : decode prog_29_method_1_code 6 = .ok (.newarray .int, 2) := by decide +kernel
theorem d2_8 : decode prog_29_method_1_code 8 = .ok (.putfield 9, 3) := by decide +kernel
theorem d2_11 : decode prog_29_method_1_code 11 = .ok (.aload_n 0, 1) := by decide +kernel
theorem d2_12 : decode prog_29_method_1_code 12 = .ok (.iload_n 1, 1) := by decide +kernel
theorem d2_13 : decode prog_29_method_1_code 13 = .ok (.invokevirtual 13, 3) := by decide +kernel
theorem d2_16 : decode prog_29_method_1_code 16 = .ok (.aload_n 0, 1) := by decide +kernel
theorem d2_17 : decode prog_29_method_1_code 17 = .ok (.iload_n 2, 1) := by decide +kernel
theorem d2_18 : decode prog_29_method_1_code 18 = .ok (.invokevirtual 13, 3) := by decide +kernel
theorem d2_21 : decode prog_29_method_1_code 21 = .ok (.return_, 1) := by decide +kernel
theorem pn_2 : plainFor (⟨"com/example/utu/utu/SlotNumbers", "<init>", "(II)V"⟩ : MethodName) = true := plainFor_of_name (by first | (simp [plainName, overriddenIn]; done) | decide +kernel)
theorem pd_2 : parseMethodDescriptor "(II)V" = some ⟨[.int, .int], none⟩ := by decide +kernel
theorem ef_2 (m : MethodId) (x0 : Addr) (x1 : Int32) (x2 : Int32) : entryFrame m #[(.ref x0), (.int x1), (.int x2)] 3 = mkF m 0 #[.val (.ref x0), .val (.int x1), .val (.int x2)] [] := by first | (simp [entryFrame, mkF, argsToLocals, Value.category, maxLocals]; done) | rfl
def Q2 (Z : State) (a1 : Addr) (p1 : Int32) (p2 : Int32)  (h0 : Heap) (n0 : Nat) (v : Option Value) (h : Heap) (L : List Loc) : Prop := v = none ∧ Fr n0 L ∧ Keep h0 h [a1] ∧ ∃ (tb' : Addr) (nn' : Int32) (f' : Int → Int32) (s' : Int32), n0 ≤ tb' ∧ h0.size ≤ tb' ∧ a1 ≠ tb' ∧ Fld Z h a1 "com/example/utu/utu/SlotNumbers" "table" "[I" (.ref tb') ∧ Fld Z h a1 "com/example/utu/utu/SlotNumbers" "size" "I" (.int s') ∧ OwnA Z h tb' .int nn' (fun i => .int (f' i)) ∧ own_inv nn' f' s' ∧ s'.toInt ≤ 2 ∧ ∀ y : Int32, y ≠ 0 → (own_mem nn'.toInt f' y ↔ (y = p1 ∨ y = p2))
set_option maxRecDepth 65536 in
set_option maxHeartbeats 40000000 in
theorem rm2 (l : Launch) (Z : State) (a0 : Array Value) (hw : ∀ d ∈ tables_1, d.before a0 Z = true) (ws : List Jvm.Cond) (a1 : Addr) (p1 : Int32) (p2 : Int32)  (h0 : Heap) (n0 : Nat) (Z0 : n0 ≤ h0.size) (g0 : n0 ≤ a1) (E0 : Exa Z h0 a1 "com/example/utu/utu/SlotNumbers") (F0 : Fld Z h0 a1 "com/example/utu/utu/SlotNumbers" "table" "[I" .null) (F1 : Fld Z h0 a1 "com/example/utu/utu/SlotNumbers" "size" "I" (.int (0 : Int32))) (hx1 : p1 ≠ 0) (hx2 : p2 ≠ 0) :
    MetFree l (⟨"com/example/utu/utu/SlotNumbers", "<init>", "(II)V"⟩ : MethodName) (head1 (Jvm.Cond.code (⟨"com/example/utu/utu/SlotNumbers", "<init>", "(II)V"⟩ : MethodName) prog_29_method_1_code 3 none :: ws) ({ frames := 7, cells := 3, slots := 20, locals := 102 } : Room)) (fun a U => a = #[(.ref a1), (.int p1), (.int p2)] ∧ Z.Warmed39 U.vm ∧ U.heap = h0) (fun _ _ _ _ _ => True) (fun _ U oc U' => ∃ v L, oc = .returned v ∧ Q2 Z a1 p1 p2  h0 n0 v U'.heap L ∧ FrameEnd U oc U' L ({ frames := 7, cells := 3, slots := 20, locals := 102 } : Room).cells ({ frames := 7, cells := 3, slots := 20, locals := 102 } : Room).slots) := by
  refine MetFree.of_bodySF pn_2 hisR ?_
  intro p e s m args below meth c s₁ Bd hml0 hP hK
  obtain ⟨rfl, hZ, hh⟩ := hP
  have hx := Bd.exec
  have hby := Bd.bytes
  have hlk := BodyLoose.notSynchronized Bd
  have hml : c.maxLocals = 3 := hml0
  have hown : s.vm.findClass "com/example/utu/utu/SlotNumbers" = some m.cls := findClass_of_methodNamed Bd.named
  have hnm := (name_of_methodNamed Bd.named Bd.method).1
  have X0 : Stand p l e ({ frames := 7, cells := 3, slots := 20, locals := 102 } : Room) s m #[(.ref a1), (.int p1), (.int p2)] below meth c s₁ [] 0 0 := Stand.of_body Bd
  have e0 : s₁.heap = h0 := by rw [← hh, Bd.state]; rfl
  have N0 := Fr.nil n0
  show OwnWp p e below s ({ frames := 7, cells := 3, slots := 20, locals := 102 } : Room).cells ({ frames := 7, cells := 3, slots := 20, locals := 102 } : Room).slots (Q2 Z a1 p1 p2  h0 n0) (s₁.setTop (entryFrame m #[(.ref a1), (.int p1), (.int p2)] 3))
  refine OwnWp.cast (ef_2 m a1 p1 p2) ?_
  show OwnWp p e below s _ _ _ (s₁.setTop (mkF m 0 #[.val (.ref a1), .val (.int p1), .val (.int p2)] []))
  have K0 := Keep.refl h0 [a1]
  refine OwnWp.step (U' := s₁.setTop (mkF m 1 #[.val (.ref a1), .val (.int p1), .val (.int p2)] [(.ref a1)])) (fun t k => ?_) ?_
  · show Steps p.tables e below (s₁.setTop (mkF m 0 #[.val (.ref a1), .val (.int p1), .val (.int p2)] [])) _
    refine XS.aloadN X0.here hx rfl (hb hby d2_0) rfl rfl ?_
    show Steps p.tables e below (s₁.setTop (mkF m 1 #[.val (.ref a1), .val (.int p1), .val (.int p2)] [(.ref a1)])) _
    exact k
  obtain ⟨T86, X86, e86, st86⟩ := initO X0 hx hZ hown (hw _ (List.mem_of_getElem? (i := 13) rfl)) (hw _ (List.mem_of_getElem? (i := 14) rfl)) (hw _ (List.mem_of_getElem? (i := 15) rfl)) e0 (g := (mkF m 1 #[.val (.ref a1), .val (.int p1), .val (.int p2)] [(.ref a1)])) rfl (by rw [hml]; rfl) rfl (hb hby d2_1) (by decide) (W := 0) (by show 2 * 0 + _ ≤ _; exact Nat.le_of_eq rfl) (by decide)
  refine OwnWp.step st86 ?_
  show OwnWp p e below s _ _ _ (T86.setTop (mkF m 4 #[.val (.ref a1), .val (.int p1), .val (.int p2)] []))
  refine OwnWp.step (U' := T86.setTop (mkF m 6 #[.val (.ref a1), .val (.int p1), .val (.int p2)] [(.int (4 : Int32)), (.ref a1)])) (fun t k => ?_) ?_
  · show Steps p.tables e below (T86.setTop (mkF m 4 #[.val (.ref a1), .val (.int p1), .val (.int p2)] [])) _
    refine XS.aloadN X86.here hx rfl (hb hby d2_4) rfl rfl ?_
    show Steps p.tables e below (T86.setTop (mkF m 5 #[.val (.ref a1), .val (.int p1), .val (.int p2)] [(.ref a1)])) _
    refine XT.iconstV X86.here hx rfl (4 : Int32) (hb hby d2_5) rfl ?_
    show Steps p.tables e below (T86.setTop (mkF m 6 #[.val (.ref a1), .val (.int p1), .val (.int p2)] [(.int (4 : Int32)), (.ref a1)])) _
    exact k
  obtain ⟨T87, h87, cA87, X87, e87, E87, Ar87, st87⟩ := newP X86 hx hZ (aty := .int) (hw _ (List.mem_of_getElem? (i := 5) rfl)) e86 (g := (mkF m 6 #[.val (.ref a1), .val (.int p1), .val (.int p2)] [(.int (4 : Int32)), (.ref a1)])) rfl (hb hby d2_6) rfl (by decide) (cap := 4) (by decide) (by decide) (by decide) (by decide)
  obtain ⟨ad87, ga87⟩ : ∃ z, z = h0.size := ⟨_, rfl⟩
  rw [← ga87] at Ar87 st87
  refine OwnWp.step st87 ?_
  have ne87_88 : a1 ≠ ad87 := Nat.ne_of_lt (by rw [ga87]; exact F1.lt)
  have Z87 : n0 ≤ h87.size := Nat.le_trans Z0 E87.1
  have b87 : n0 ≤ ad87 := Nat.le_trans Z0 (Nat.le_of_eq ga87.symm)
  have bk87 : h0.size ≤ ad87 := by rw [ga87]; exact K0.1
  have K89 := Keep.ext K0 E87
  have f90 := Exa.ext E87 E0
  have f91 := Fld.ext E87 F0
  have f92 := Fld.ext E87 F1
  have F93 : OwnA Z h87 ad87 .int (4 : Int32) (fun _ => (.int (0 : Int32))) := OwnA.new Ar87 (by decide)
  show OwnWp p e below s _ _ _ (T87.setTop (mkF m 8 #[.val (.ref a1), .val (.int p1), .val (.int p2)] [(.ref ad87), (.ref a1)]))
  obtain ⟨T94, h94, X94, e94, W94, st94⟩ := putF X87 hx hZ hown (host := "") (Or.inl (hw _ (List.mem_of_getElem? (i := 16) rfl))) Via.refl e87 f91 f90 (Or.inl (hw _ (List.mem_of_getElem? (i := 17) rfl))) (hw _ (List.mem_of_getElem? (i := 8) rfl)) (ty := (.array .int)) (by decide) rfl rfl (g := (mkF m 8 #[.val (.ref a1), .val (.int p1), .val (.int p2)] [(.ref ad87), (.ref a1)])) rfl rfl (hb hby d2_8)
  have N94 := own_frs (sl := Jvm.RoadKit.slotOf Z "com/example/utu/utu/SlotNumbers" "table" "[I") N0 g0
  have Z94 : n0 ≤ h94.size := by rw [W94.size]; exact Z87
  refine OwnWp.step st94 ?_
  have f95 := Exa.wr W94 f90
  have f96 := Fld.same W94 f91
  have f97 := Fld.other W94 f92 (Or.inr (slot_ne (C := "com/example/utu/utu/SlotNumbers") (Or.inl (hw _ (List.mem_of_getElem? (i := 40) rfl))) (Or.inl (hw _ (List.mem_of_getElem? (i := 17) rfl))) (by decide) (t := .int) (t' := (.array .int)) (by decide) (by decide)))
  have f98 := OwnA.other F93 W94 ne87_88.symm
  have K99 := Keep.wr K89 W94 (Or.inl (List.mem_of_getElem? (i := 0) rfl))
  show OwnWp p e below s _ _ _ (T94.setTop (mkF m 11 #[.val (.ref a1), .val (.int p1), .val (.int p2)] []))
  refine OwnWp.step (U' := T94.setTop (mkF m 13 #[.val (.ref a1), .val (.int p1), .val (.int p2)] [(.int p1), (.ref a1)])) (fun t k => ?_) ?_
  · show Steps p.tables e below (T94.setTop (mkF m 11 #[.val (.ref a1), .val (.int p1), .val (.int p2)] [])) _
    refine XS.aloadN X94.here hx rfl (hb hby d2_11) rfl rfl ?_
    show Steps p.tables e below (T94.setTop (mkF m 12 #[.val (.ref a1), .val (.int p1), .val (.int p2)] [(.ref a1)])) _
    refine XS.iloadN X94.here hx rfl (hb hby d2_12) rfl ?_
    show Steps p.tables e below (T94.setTop (mkF m 13 #[.val (.ref a1), .val (.int p1), .val (.int p2)] [(.int p1), (.ref a1)])) _
    exact k
  obtain ⟨cq100, kq100, qa100, qb100, qc100⟩ := isOf hZ e94 f95
  obtain ⟨_, _, ⟨T100, L100, k100, n100⟩, -, X100, ⟨Lc100, hQ100, l100, y100, z100⟩, st100⟩ := X94.virtualBack hx (y := (⟨"com/example/utu/utu/SlotNumbers", "add", "(I)V"⟩ : MethodName)) (z := (⟨"com/example/utu/utu/SlotNumbers", "add", "(I)V"⟩ : MethodName)) hown (mvT hZ (hw _ (List.mem_of_getElem? (i := 18) rfl))) (mvT hZ (hw _ (List.mem_of_getElem? (i := 19) rfl))) (notFace_of_selects (args := #[]) (mvT hZ (hw _ (List.mem_of_getElem? (i := 21) rfl)))) (mvT hZ (hw _ (List.mem_of_getElem? (i := 21) rfl))) (mvT hZ (hw _ (List.mem_of_getElem? (i := 20) rfl))) (by decide) (backOf (W := 0) (rm4 l Z a0 hw [] a1 p1 ad87 (4 : Int32) (fun _ => (0 : Int32)) (0 : Int32) h94 n0 Z94 g0 b87 ne87_88 f95 f96 f97 f98 own_inv0 (by decide) hx1) hZ (hw _ (List.mem_of_getElem? (i := 22) rfl)) (hw _ (List.mem_of_getElem? (i := 9) rfl)) (by decide) (by decide)) qa100 qc100 (g := (mkF m 13 #[.val (.ref a1), .val (.int p1), .val (.int p2)] [(.int p1), (.ref a1)])) rfl (by rw [hml]; rfl) (Steps.refl _) (argsL := [(.int p1)]) (rest := []) (lenOf pd_4 rfl) rfl (by show 2 * 0 + _ ≤ _; exact Nat.le_of_eq rfl) (hb hby d2_13) (fun _ _ => ⟨rfl, e94, (by dsimp only [Pt.cells]; decide), (by dsimp only [Pt.slots]; decide)⟩)
  dsimp only [Pt.U, Pt.locs, Pt.cells, Pt.slots] at X100 l100 y100 z100 st100 hQ100
  subst l100 y100 z100
  obtain ⟨rfl, Nc100, Kc100, ⟨tb100, nn100, ff100, ss100, lt100, or100, ft100, fz100, at100, iv100, le100, mm100⟩⟩ := hQ100
  have N100 := Fr.app N94 Nc100
  refine OwnWp.go st100 ?_
  have Z100 : n0 ≤ T100.heap.size := Nat.le_trans Z94 Kc100.1
  have f101 := Exa.keep f95 Kc100
  have K105 := Keep.trans K99 Kc100 (allS (Or.inl (List.mem_of_getElem? (i := 0) rfl)) (allS (Or.inr bk87) all0))
  show OwnWp p e below s _ _ _ (T100.setTop (mkF m 16 #[.val (.ref a1), .val (.int p1), .val (.int p2)] []))
  have no100_106 : a1 ≠ tb100 := by rcases or100 with h9 | h9; (rw [h9]; exact ne87_88); exact Nat.ne_of_lt (Nat.lt_of_lt_of_le (f95).lt h9)
  have bk100 : h0.size ≤ tb100 := by rcases or100 with h9 | h9; (rw [h9]; exact bk87); exact Nat.le_trans K99.1 h9
  refine OwnWp.step (U' := T100.setTop (mkF m 18 #[.val (.ref a1), .val (.int p1), .val (.int p2)] [(.int p2), (.ref a1)])) (fun t k => ?_) ?_
  · show Steps p.tables e below (T100.setTop (mkF m 16 #[.val (.ref a1), .val (.int p1), .val (.int p2)] [])) _
    refine XS.aloadN X100.here hx rfl (hb hby d2_16) rfl rfl ?_
    show Steps p.tables e below (T100.setTop (mkF m 17 #[.val (.ref a1), .val (.int p1), .val (.int p2)] [(.ref a1)])) _
    refine XS.iloadN X100.here hx rfl (hb hby d2_17) rfl ?_
    show Steps p.tables e below (T100.setTop (mkF m 18 #[.val (.ref a1), .val (.int p1), .val (.int p2)] [(.int p2), (.ref a1)])) _
    exact k
  have hs1 : ss100.toInt ≤ 1 := le100
  obtain ⟨cq107, kq107, qa107, qb107, qc107⟩ := isOf hZ (rfl : T100.heap = T100.heap) f101
  obtain ⟨_, _, ⟨T107, L107, k107, n107⟩, -, X107, ⟨Lc107, hQ107, l107, y107, z107⟩, st107⟩ := X100.virtualBack hx (y := (⟨"com/example/utu/utu/SlotNumbers", "add", "(I)V"⟩ : MethodName)) (z := (⟨"com/example/utu/utu/SlotNumbers", "add", "(I)V"⟩ : MethodName)) hown (mvT hZ (hw _ (List.mem_of_getElem? (i := 18) rfl))) (mvT hZ (hw _ (List.mem_of_getElem? (i := 19) rfl))) (notFace_of_selects (args := #[]) (mvT hZ (hw _ (List.mem_of_getElem? (i := 21) rfl)))) (mvT hZ (hw _ (List.mem_of_getElem? (i := 21) rfl))) (mvT hZ (hw _ (List.mem_of_getElem? (i := 20) rfl))) (by decide) (backOf (W := 0) (rm4 l Z a0 hw [] a1 p2 tb100 nn100 ff100 ss100 T100.heap n0 Z100 g0 lt100 no100_106 f101 ft100 fz100 at100 iv100 (by omega) hx2) hZ (hw _ (List.mem_of_getElem? (i := 22) rfl)) (hw _ (List.mem_of_getElem? (i := 9) rfl)) (by decide) (by decide)) qa107 qc107 (g := (mkF m 18 #[.val (.ref a1), .val (.int p1), .val (.int p2)] [(.int p2), (.ref a1)])) rfl (by rw [hml]; rfl) (Steps.refl _) (argsL := [(.int p2)]) (rest := []) (lenOf pd_4 rfl) rfl (by show 2 * 0 + _ ≤ _; exact Nat.le_of_eq rfl) (hb hby d2_18) (fun _ _ => ⟨rfl, (rfl : T100.heap = T100.heap), (by dsimp only [Pt.cells]; decide), (by dsimp only [Pt.slots]; decide)⟩)
  dsimp only [Pt.U, Pt.locs, Pt.cells, Pt.slots] at X107 l107 y107 z107 st107 hQ107
  subst l107 y107 z107
  obtain ⟨rfl, Nc107, Kc107, ⟨tb107, nn107, ff107, ss107, lt107, or107, ft107, fz107, at107, iv107, le107, mm107⟩⟩ := hQ107
  have N107 := Fr.app N100 Nc107
  refine OwnWp.go st107 ?_
  have Z107 : n0 ≤ T107.heap.size := Nat.le_trans Z100 Kc107.1
  have f108 := Exa.keep f101 Kc107
  have K112 := Keep.trans K105 Kc107 (allS (Or.inl (List.mem_of_getElem? (i := 0) rfl)) (allS (Or.inr bk100) all0))
  show OwnWp p e below s _ _ _ (T107.setTop (mkF m 21 #[.val (.ref a1), .val (.int p1), .val (.int p2)] []))
  have no107_113 : a1 ≠ tb107 := by rcases or107 with h9 | h9; (rw [h9]; exact no100_106); exact Nat.ne_of_lt (Nat.lt_of_lt_of_le (f101).lt h9)
  have bk107 : h0.size ≤ tb107 := by rcases or107 with h9 | h9; (rw [h9]; exact bk100); exact Nat.le_trans K105.1 h9
  refine OwnWp.retV X107 hx hlk Bd.returns (hb hby d2_21) (by decide) (by decide) ?_
  exact ⟨rfl, N107, K112, tb107, nn107, ff107, ss107, lt107, bk107, no107_113, ft107, fz107, at107, iv107, by omega, fun y hy => by rw [mm107 y hy, mm100 y hy]; exact own_two y p1 p2 hy⟩
theorem d13_0 : decode jdk_30_method_1_code 0 = .ok (.aload_n 0, 1) := by decide +kernel
theorem d13_1 : decode jdk_30_method_1_code 1 = .ok (.invokespecial 1, 3) := by decide +kernel
theorem d13_4 : decode jdk_30_method_1_code 4 = .ok (.return_, 1) := by decide +kernel
theorem pn_13 : plainFor (⟨"java/lang/Record", "<init>", "()V"⟩ : MethodName) = true := plainFor_of_name (by first | (simp [plainName, overriddenIn]; done) | decide +kernel)
theorem pd_13 : parseMethodDescriptor "()V" = some ⟨[], none⟩ := by decide +kernel
theorem ef_13 (m : MethodId) (x0 : Addr) : entryFrame m #[(.ref x0)] 1 = mkF m 0 #[.val (.ref x0)] [] := by first | (simp [entryFrame, mkF, argsToLocals, Value.category, maxLocals]; done) | rfl
def Q13 (Z : State) (a1 : Addr)  (h0 : Heap) (n0 : Nat) (v : Option Value) (h : Heap) (L : List Loc) : Prop := v = none ∧ Fr n0 L ∧ h = h0
set_option maxRecDepth 65536 in
set_option maxHeartbeats 40000000 in
theorem rm13 (l : Launch) (Z : State) (a0 : Array Value) (hw : ∀ d ∈ tables_1, d.before a0 Z = true) (ws : List Jvm.Cond) (a1 : Addr)  (h0 : Heap) (n0 : Nat) (Z0 : n0 ≤ h0.size)  :
    MetFree l (⟨"java/lang/Record", "<init>", "()V"⟩ : MethodName) (head1 (Jvm.Cond.code (⟨"java/lang/Record", "<init>", "()V"⟩ : MethodName) jdk_30_method_1_code 1 none :: ws) ({ frames := 1, cells := 0, slots := 0, locals := 12 } : Room)) (fun a U => a = #[(.ref a1)] ∧ Z.Warmed39 U.vm ∧ U.heap = h0) (fun _ _ _ _ _ => True) (fun _ U oc U' => ∃ v L, oc = .returned v ∧ Q13 Z a1  h0 n0 v U'.heap L ∧ FrameEnd U oc U' L ({ frames := 1, cells := 0, slots := 0, locals := 12 } : Room).cells ({ frames := 1, cells := 0, slots := 0, locals := 12 } : Room).slots) := by
  refine MetFree.of_bodySF pn_13 hisR ?_
  intro p e s m args below meth c s₁ Bd hml0 hP hK
  obtain ⟨rfl, hZ, hh⟩ := hP
  have hx := Bd.exec
  have hby := Bd.bytes
  have hlk := BodyLoose.notSynchronized Bd
  have hml : c.maxLocals = 1 := hml0
  have hown : s.vm.findClass "java/lang/Record" = some m.cls := findClass_of_methodNamed Bd.named
  have hnm := (name_of_methodNamed Bd.named Bd.method).1
  have X0 : Stand p l e ({ frames := 1, cells := 0, slots := 0, locals := 12 } : Room) s m #[(.ref a1)] below meth c s₁ [] 0 0 := Stand.of_body Bd
  have e0 : s₁.heap = h0 := by rw [← hh, Bd.state]; rfl
  have N0 := Fr.nil n0
  show OwnWp p e below s ({ frames := 1, cells := 0, slots := 0, locals := 12 } : Room).cells ({ frames := 1, cells := 0, slots := 0, locals := 12 } : Room).slots (Q13 Z a1  h0 n0) (s₁.setTop (entryFrame m #[(.ref a1)] 1))
  refine OwnWp.cast (ef_13 m a1) ?_
  show OwnWp p e below s _ _ _ (s₁.setTop (mkF m 0 #[.val (.ref a1)] []))
  refine OwnWp.step (U' := s₁.setTop (mkF m 1 #[.val (.ref a1)] [(.ref a1)])) (fun t k => ?_) ?_
  · show Steps p.tables e below (s₁.setTop (mkF m 0 #[.val (.ref a1)] [])) _
    refine XS.aloadN X0.here hx rfl (hb hby d13_0) rfl rfl ?_
    show Steps p.tables e below (s₁.setTop (mkF m 1 #[.val (.ref a1)] [(.ref a1)])) _
    exact k
  obtain ⟨T114, X114, e114, st114⟩ := initO X0 hx hZ hown (hw _ (List.mem_of_getElem? (i := 64) rfl)) (hw _ (List.mem_of_getElem? (i := 14) rfl)) (hw _ (List.mem_of_getElem? (i := 15) rfl)) e0 (g := (mkF m 1 #[.val (.ref a1)] [(.ref a1)])) rfl (by rw [hml]; rfl) rfl (hb hby d13_1) (by decide) (W := 0) (by show 2 * 0 + _ ≤ _; exact Nat.le_of_eq rfl) (by decide)
  refine OwnWp.step st114 ?_
  show OwnWp p e below s _ _ _ (T114.setTop (mkF m 4 #[.val (.ref a1)] []))
  refine OwnWp.retV X114 hx hlk Bd.returns (hb hby d13_4) (by decide) (by decide) ?_
  exact ⟨rfl, N0, e114⟩
theorem d12_0 : decode prog_30_method_1_code 0 = .ok (.aload_n 0, 1) := by decide +kernel
theorem d12_1 : decode prog_30_method_1_code 1 = .ok (.invokespecial 1, 3) := by decide +kernel
theorem d12_4 : decode prog_30_method_1_code 4 = .ok (.aload_n 0, 1) := by decide +kernel
theorem d12_5 : decode prog_30_method_1_code 5 = .ok (.aload_n 1, 1) := by decide +kernel
theorem d12_6 : decode prog_30_method_1_code 6 = .ok (.putfield 7, 3) := by decide +kernel
theorem d12_9 : decode prog_30_method_1_code 9 = .ok (.return_, 1) := by decide +kernel
theorem pn_12 : plainFor (⟨"com/example/utu/utu/SlotNumbers$TablePlaces", "<init>", "([I)V"⟩ : MethodName) = true := plainFor_of_name (by first | (simp [plainName, overriddenIn]; done) | decide +kernel)
theorem pd_12 : parseMethodDescriptor "([I)V" = some ⟨[(.array .int)], none⟩ := by decide +kernel
theorem ef_12 (m : MethodId) (x0 : Addr) (x1 : Addr) : entryFrame m #[(.ref x0), (.ref x1)] 2 = mkF m 0 #[.val (.ref x0), .val (.ref x1)] [] := by first | (simp [entryFrame, mkF, argsToLocals, Value.category, maxLocals]; done) | rfl
def Q12 (Z : State) (a1 : Addr) (a2 : Addr)  (h0 : Heap) (n0 : Nat) (v : Option Value) (h : Heap) (L : List Loc) : Prop := v = none ∧ Fr n0 L ∧ Keep h0 h [a1] ∧ Fld Z h a1 "com/example/utu/utu/SlotNumbers$TablePlaces" "table" "[I" (.ref a2)
set_option maxRecDepth 65536 in
set_option maxHeartbeats 40000000 in
theorem rm12 (l : Launch) (Z : State) (a0 : Array Value) (hw : ∀ d ∈ tables_1, d.before a0 Z = true) (ws : List Jvm.Cond) (a1 : Addr) (a2 : Addr)  (h0 : Heap) (n0 : Nat) (Z0 : n0 ≤ h0.size) (g0 : n0 ≤ a1) (E0 : Exa Z h0 a1 "com/example/utu/utu/SlotNumbers$TablePlaces") (F0 : Fld Z h0 a1 "com/example/utu/utu/SlotNumbers$TablePlaces" "table" "[I" .null) :
    MetFree l (⟨"com/example/utu/utu/SlotNumbers$TablePlaces", "<init>", "([I)V"⟩ : MethodName) (head1 (Jvm.Cond.code (⟨"com/example/utu/utu/SlotNumbers$TablePlaces", "<init>", "([I)V"⟩ : MethodName) prog_30_method_1_code 2 none :: ws) ({ frames := 2, cells := 0, slots := 0, locals := 24 } : Room)) (fun a U => a = #[(.ref a1), (.ref a2)] ∧ Z.Warmed39 U.vm ∧ U.heap = h0) (fun _ _ _ _ _ => True) (fun _ U oc U' => ∃ v L, oc = .returned v ∧ Q12 Z a1 a2  h0 n0 v U'.heap L ∧ FrameEnd U oc U' L ({ frames := 2, cells := 0, slots := 0, locals := 24 } : Room).cells ({ frames := 2, cells := 0, slots := 0, locals := 24 } : Room).slots) := by
  refine MetFree.of_bodySF pn_12 hisR ?_
  intro p e s m args below meth c s₁ Bd hml0 hP hK
  obtain ⟨rfl, hZ, hh⟩ := hP
  have hx := Bd.exec
  have hby := Bd.bytes
  have hlk := BodyLoose.notSynchronized Bd
  have hml : c.maxLocals = 2 := hml0
  have hown : s.vm.findClass "com/example/utu/utu/SlotNumbers$TablePlaces" = some m.cls := findClass_of_methodNamed Bd.named
  have hnm := (name_of_methodNamed Bd.named Bd.method).1
  have X0 : Stand p l e ({ frames := 2, cells := 0, slots := 0, locals := 24 } : Room) s m #[(.ref a1), (.ref a2)] below meth c s₁ [] 0 0 := Stand.of_body Bd
  have e0 : s₁.heap = h0 := by rw [← hh, Bd.state]; rfl
  have N0 := Fr.nil n0
  show OwnWp p e below s ({ frames := 2, cells := 0, slots := 0, locals := 24 } : Room).cells ({ frames := 2, cells := 0, slots := 0, locals := 24 } : Room).slots (Q12 Z a1 a2  h0 n0) (s₁.setTop (entryFrame m #[(.ref a1), (.ref a2)] 2))
  refine OwnWp.cast (ef_12 m a1 a2) ?_
  show OwnWp p e below s _ _ _ (s₁.setTop (mkF m 0 #[.val (.ref a1), .val (.ref a2)] []))
  have K0 := Keep.refl h0 [a1]
  refine OwnWp.step (U' := s₁.setTop (mkF m 1 #[.val (.ref a1), .val (.ref a2)] [(.ref a1)])) (fun t k => ?_) ?_
  · show Steps p.tables e below (s₁.setTop (mkF m 0 #[.val (.ref a1), .val (.ref a2)] [])) _
    refine XS.aloadN X0.here hx rfl (hb hby d12_0) rfl rfl ?_
    show Steps p.tables e below (s₁.setTop (mkF m 1 #[.val (.ref a1), .val (.ref a2)] [(.ref a1)])) _
    exact k
  obtain ⟨_, _, ⟨T115, L115, k115, n115⟩, -, X115, ⟨Lc115, hQ115, l115, y115, z115⟩, st115⟩ := X0.specialBack hx (y := (⟨"java/lang/Record", "<init>", "()V"⟩ : MethodName)) rfl hown (mvT hZ (hw _ (List.mem_of_getElem? (i := 59) rfl))) (mvT hZ (hw _ (List.mem_of_getElem? (i := 60) rfl))) (mvT hZ (hw _ (List.mem_of_getElem? (i := 63) rfl))) (by decide) (backOf (W := 0) (rm13 l Z a0 hw [] a1 h0 n0 Z0) hZ (hw _ (List.mem_of_getElem? (i := 63) rfl)) (hw _ (List.mem_of_getElem? (i := 62) rfl)) (by decide) (by decide)) (g := (mkF m 1 #[.val (.ref a1), .val (.ref a2)] [(.ref a1)])) rfl (by rw [hml]; rfl) (Steps.refl _) (a := a1) (argsL := []) (rest := []) (lenOf pd_13 rfl) rfl (by show 2 * 0 + _ ≤ _; exact Nat.le_of_eq rfl) (hb hby d12_1) (fun _ _ => ⟨rfl, e0, (by dsimp only [Pt.cells]; decide), (by dsimp only [Pt.slots]; decide)⟩)
  dsimp only [Pt.U, Pt.locs, Pt.cells, Pt.slots] at X115 l115 y115 z115 st115 hQ115
  subst l115 y115 z115
  obtain ⟨rfl, Nc115, hp115⟩ := hQ115
  have N115 := Fr.app N0 Nc115
  refine OwnWp.go st115 ?_
  have eh115 : T115.heap = h0 := hp115
  show OwnWp p e below s _ _ _ (T115.setTop (mkF m 4 #[.val (.ref a1), .val (.ref a2)] []))
  refine OwnWp.step (U' := T115.setTop (mkF m 6 #[.val (.ref a1), .val (.ref a2)] [(.ref a2), (.ref a1)])) (fun t k => ?_) ?_
  · show Steps p.tables e below (T115.setTop (mkF m 4 #[.val (.ref a1), .val (.ref a2)] [])) _
    refine XS.aloadN X115.here hx rfl (hb hby d12_4) rfl rfl ?_
    show Steps p.tables e below (T115.setTop (mkF m 5 #[.val (.ref a1), .val (.ref a2)] [(.ref a1)])) _
    refine XS.aloadN X115.here hx rfl (hb hby d12_5) rfl rfl ?_
    show Steps p.tables e below (T115.setTop (mkF m 6 #[.val (.ref a1), .val (.ref a2)] [(.ref a2), (.ref a1)])) _
    exact k
  obtain ⟨T116, h116, X116, e116, W116, st116⟩ := putF X115 hx hZ hown (host := "") (Or.inl (hw _ (List.mem_of_getElem? (i := 65) rfl))) Via.refl eh115 F0 E0 (Or.inr ⟨(hw _ (List.mem_of_getElem? (i := 66) rfl)), rfl, hnm⟩) (hw _ (List.mem_of_getElem? (i := 54) rfl)) (ty := (.array .int)) (by decide) rfl rfl (g := (mkF m 6 #[.val (.ref a1), .val (.ref a2)] [(.ref a2), (.ref a1)])) rfl rfl (hb hby d12_6)
  have N116 := own_frs (sl := Jvm.RoadKit.slotOf Z "com/example/utu/utu/SlotNumbers$TablePlaces" "table" "[I") N115 g0
  have Z116 : n0 ≤ h116.size := by rw [W116.size]; exact Z0
  refine OwnWp.step st116 ?_
  have f117 := Exa.wr W116 E0
  have f118 := Fld.same W116 F0
  have K119 := Keep.wr K0 W116 (Or.inl (List.mem_of_getElem? (i := 0) rfl))
  show OwnWp p e below s _ _ _ (T116.setTop (mkF m 9 #[.val (.ref a1), .val (.ref a2)] []))
  refine OwnWp.retV X116 hx hlk Bd.returns (hb hby d12_9) (by decide) (by decide) ?_
  rw [e116]
  exact ⟨rfl, N116, K119, f118⟩
theorem d15_0 : decode prog_30_method_2_code 0 = .ok (.aload_n 0, 1) := by decide +kernel
theorem d15_1 : decode prog_30_method_2_code 1 = .ok (.getfield 7, 3) := by decide +kernel
theorem d15_4 : decode prog_30_method_2_code 4 = .ok (.arraylength, 1) := by decide +kernel
theorem d15_5 : decode prog_30_method_2_code 5 = .ok (.ireturn, 1) := by decide +kernel
theorem pn_15 : plainFor (⟨"com/example/utu/utu/SlotNumbers$TablePlaces", "length", "()I"⟩ : MethodName) = true := plainFor_of_name (by first | (simp [plainName, overriddenIn]; done) | decide +kernel)
theorem pd_15 : parseMethodDescriptor "()I" = some ⟨[], some .int⟩ := by decide +kernel
theorem ef_15 (m : MethodId) (x0 : Addr) : entryFrame m #[(.ref x0)] 1 = mkF m 0 #[.val (.ref x0)] [] := by first | (simp [entryFrame, mkF, argsToLocals, Value.category, maxLocals]; done) | rfl
def Q15 (Z : State) (a1 : Addr) (tb : Addr) (nn : Int32) (f : Int → Int32) (h0 : Heap) (n0 : Nat) (v : Option Value) (h : Heap) (L : List Loc) : Prop := v = some (.int nn) ∧ Fr n0 L ∧ h = h0
set_option maxRecDepth 65536 in
set_option maxHeartbeats 40000000 in
theorem rm15 (l : Launch) (Z : State) (a0 : Array Value) (hw : ∀ d ∈ tables_1, d.before a0 Z = true) (ws : List Jvm.Cond) (a1 : Addr) (tb : Addr) (nn : Int32) (f : Int → Int32) (h0 : Heap) (n0 : Nat) (Z0 : n0 ≤ h0.size) (F0 : Fld Z h0 a1 "com/example/utu/utu/SlotNumbers$TablePlaces" "table" "[I" (.ref tb)) (A0 : OwnA Z h0 tb .int nn (fun i => .int (f i))) :
    MetFree l (⟨"com/example/utu/utu/SlotNumbers$TablePlaces", "length", "()I"⟩ : MethodName) (head1 (Jvm.Cond.code (⟨"com/example/utu/utu/SlotNumbers$TablePlaces", "length", "()I"⟩ : MethodName) prog_30_method_2_code 1 (some .int) :: ws) ({ frames := 0, cells := 0, slots := 0, locals := 0 } : Room)) (fun a U => a = #[(.ref a1)] ∧ Z.Warmed39 U.vm ∧ U.heap = h0) (fun _ _ _ _ _ => True) (fun _ U oc U' => ∃ v L, oc = .returned v ∧ Q15 Z a1 tb nn f h0 n0 v U'.heap L ∧ FrameEnd U oc U' L ({ frames := 0, cells := 0, slots := 0, locals := 0 } : Room).cells ({ frames := 0, cells := 0, slots := 0, locals := 0 } : Room).slots) := by
  refine MetFree.of_bodySF pn_15 hisR ?_
  intro p e s m args below meth c s₁ Bd hml0 hP hK
  obtain ⟨rfl, hZ, hh⟩ := hP
  have hx := Bd.exec
  have hby := Bd.bytes
  have hlk := BodyLoose.notSynchronized Bd
  have hml : c.maxLocals = 1 := hml0
  have hown : s.vm.findClass "com/example/utu/utu/SlotNumbers$TablePlaces" = some m.cls := findClass_of_methodNamed Bd.named
  have hnm := (name_of_methodNamed Bd.named Bd.method).1
  have X0 : Stand p l e ({ frames := 0, cells := 0, slots := 0, locals := 0 } : Room) s m #[(.ref a1)] below meth c s₁ [] 0 0 := Stand.of_body Bd
  have e0 : s₁.heap = h0 := by rw [← hh, Bd.state]; rfl
  have N0 := Fr.nil n0
  show OwnWp p e below s ({ frames := 0, cells := 0, slots := 0, locals := 0 } : Room).cells ({ frames := 0, cells := 0, slots := 0, locals := 0 } : Room).slots (Q15 Z a1 tb nn f h0 n0) (s₁.setTop (entryFrame m #[(.ref a1)] 1))
  refine OwnWp.cast (ef_15 m a1) ?_
  show OwnWp p e below s _ _ _ (s₁.setTop (mkF m 0 #[.val (.ref a1)] []))
  refine OwnWp.step (U' := s₁.setTop (mkF m 1 #[.val (.ref a1)] [(.ref a1)])) (fun t k => ?_) ?_
  · show Steps p.tables e below (s₁.setTop (mkF m 0 #[.val (.ref a1)] [])) _
    refine XS.aloadN X0.here hx rfl (hb hby d15_0) rfl rfl ?_
    show Steps p.tables e below (s₁.setTop (mkF m 1 #[.val (.ref a1)] [(.ref a1)])) _
    exact k
  obtain ⟨T120, X120, e120, st120⟩ := getF X0 hx hZ hown (host := "") (Or.inl (hw _ (List.mem_of_getElem? (i := 65) rfl))) Via.refl e0 F0 (g := (mkF m 1 #[.val (.ref a1)] [(.ref a1)])) rfl rfl (hb hby d15_1)
  refine OwnWp.step st120 ?_
  show OwnWp p e below s _ _ _ (T120.setTop (mkF m 4 #[.val (.ref a1)] [(.ref tb)]))
  refine OwnWp.step (U' := T120.setTop (mkF m 5 #[.val (.ref a1)] [(.int nn)])) (fun t k => ?_) ?_
  · show Steps p.tables e below (T120.setTop (mkF m 4 #[.val (.ref a1)] [(.ref tb)])) _
    refine OwnA.alen X120 hx hZ e120 A0 rfl rfl (hb hby d15_4) ?_
    show Steps p.tables e below (T120.setTop (mkF m 5 #[.val (.ref a1)] [(.int nn)])) _
    exact k
  refine OwnWp.retI X120 hx hlk Bd.returns (hb hby d15_5) (by decide) (by decide) ?_
  exact ⟨rfl, N0, e120⟩
theorem d17_0 : decode prog_30_method_3_code 0 = .ok (.aload_n 0, 1) := by decide +kernel
theorem d17_1 : decode prog_30_method_3_code 1 = .ok (.getfield 7, 3) := by decide +kernel
theorem d17_4 : decode prog_30_method_3_code 4 = .ok (.iload_n 1, 1) := by decide +kernel
theorem d17_5 : decode prog_30_method_3_code 5 = .ok (.iaload, 1) := by decide +kernel
theorem d17_6 : decode prog_30_method_3_code 6 = .ok (.ifCond .ne 7, 3) := by decide +kernel
theorem d17_9 : decode prog_30_method_3_code 9 = .ok (.iconst 1, 1) := by decide +kernel
theorem d17_10 : decode prog_30_method_3_code 10 = .ok (.goto 4, 3) := by decide +kernel
theorem d17_13 : decode prog_30_method_3_code 13 = .ok (.iconst 0, 1) := by decide +kernel
theorem d17_14 : decode prog_30_method_3_code 14 = .ok (.ireturn, 1) := by decide +kernel
theorem pn_17 : plainFor (⟨"com/example/utu/utu/SlotNumbers$TablePlaces", "isFree", "(I)Z"⟩ : MethodName) = true := plainFor_of_name (by first | (simp [plainName, overriddenIn]; done) | decide +kernel)
theorem pd_17 : parseMethodDescriptor "(I)Z" = some ⟨[.int], some .boolean⟩ := by decide +kernel
theorem ef_17 (m : MethodId) (x0 : Addr) (x1 : Int32) : entryFrame m #[(.ref x0), (.int x1)] 2 = mkF m 0 #[.val (.ref x0), .val (.int x1)] [] := by first | (simp [entryFrame, mkF, argsToLocals, Value.category, maxLocals]; done) | rfl
def Q17 (Z : State) (a1 : Addr) (p1 : Int32) (tb : Addr) (nn : Int32) (f : Int → Int32) (h0 : Heap) (n0 : Nat) (v : Option Value) (h : Heap) (L : List Loc) : Prop := v = some (.int (own_b (f p1.toInt))) ∧ Fr n0 L ∧ h = h0
set_option maxRecDepth 65536 in
set_option maxHeartbeats 40000000 in
theorem rm17 (l : Launch) (Z : State) (a0 : Array Value) (hw : ∀ d ∈ tables_1, d.before a0 Z = true) (ws : List Jvm.Cond) (a1 : Addr) (p1 : Int32) (tb : Addr) (nn : Int32) (f : Int → Int32) (h0 : Heap) (n0 : Nat) (Z0 : n0 ≤ h0.size) (F0 : Fld Z h0 a1 "com/example/utu/utu/SlotNumbers$TablePlaces" "table" "[I" (.ref tb)) (A0 : OwnA Z h0 tb .int nn (fun i => .int (f i))) (h1 : 0 ≤ p1.toInt ∧ p1.toInt < nn.toInt) :
    MetFree l (⟨"com/example/utu/utu/SlotNumbers$TablePlaces", "isFree", "(I)Z"⟩ : MethodName) (head1 (Jvm.Cond.code (⟨"com/example/utu/utu/SlotNumbers$TablePlaces", "isFree", "(I)Z"⟩ : MethodName) prog_30_method_3_code 2 (some .boolean) :: ws) ({ frames := 0, cells := 0, slots := 0, locals := 0 } : Room)) (fun a U => a = #[(.ref a1), (.int p1)] ∧ Z.Warmed39 U.vm ∧ U.heap = h0) (fun _ _ _ _ _ => True) (fun _ U oc U' => ∃ v L, oc = .returned v ∧ Q17 Z a1 p1 tb nn f h0 n0 v U'.heap L ∧ FrameEnd U oc U' L ({ frames := 0, cells := 0, slots := 0, locals := 0 } : Room).cells ({ frames := 0, cells := 0, slots := 0, locals := 0 } : Room).slots) := by
  refine MetFree.of_bodySF pn_17 hisR ?_
  intro p e s m args below meth c s₁ Bd hml0 hP hK
  obtain ⟨rfl, hZ, hh⟩ := hP
  have hx := Bd.exec
  have hby := Bd.bytes
  have hlk := BodyLoose.notSynchronized Bd
  have hml : c.maxLocals = 2 := hml0
  have hown : s.vm.findClass "com/example/utu/utu/SlotNumbers$TablePlaces" = some m.cls := findClass_of_methodNamed Bd.named
  have hnm := (name_of_methodNamed Bd.named Bd.method).1
  have X0 : Stand p l e ({ frames := 0, cells := 0, slots := 0, locals := 0 } : Room) s m #[(.ref a1), (.int p1)] below meth c s₁ [] 0 0 := Stand.of_body Bd
  have e0 : s₁.heap = h0 := by rw [← hh, Bd.state]; rfl
  have N0 := Fr.nil n0
  show OwnWp p e below s ({ frames := 0, cells := 0, slots := 0, locals := 0 } : Room).cells ({ frames := 0, cells := 0, slots := 0, locals := 0 } : Room).slots (Q17 Z a1 p1 tb nn f h0 n0) (s₁.setTop (entryFrame m #[(.ref a1), (.int p1)] 2))
  refine OwnWp.cast (ef_17 m a1 p1) ?_
  show OwnWp p e below s _ _ _ (s₁.setTop (mkF m 0 #[.val (.ref a1), .val (.int p1)] []))
  refine OwnWp.step (U' := s₁.setTop (mkF m 1 #[.val (.ref a1), .val (.int p1)] [(.ref a1)])) (fun t k => ?_) ?_
  · show Steps p.tables e below (s₁.setTop (mkF m 0 #[.val (.ref a1), .val (.int p1)] [])) _
    refine XS.aloadN X0.here hx rfl (hb hby d17_0) rfl rfl ?_
    show Steps p.tables e below (s₁.setTop (mkF m 1 #[.val (.ref a1), .val (.int p1)] [(.ref a1)])) _
    exact k
  obtain ⟨T121, X121, e121, st121⟩ := getF X0 hx hZ hown (host := "") (Or.inl (hw _ (List.mem_of_getElem? (i := 65) rfl))) Via.refl e0 F0 (g := (mkF m 1 #[.val (.ref a1), .val (.int p1)] [(.ref a1)])) rfl rfl (hb hby d17_1)
  refine OwnWp.step st121 ?_
  show OwnWp p e below s _ _ _ (T121.setTop (mkF m 4 #[.val (.ref a1), .val (.int p1)] [(.ref tb)]))
  refine OwnWp.step (U' := T121.setTop (mkF m 6 #[.val (.ref a1), .val (.int p1)] [(.int (f p1.toInt))])) (fun t k => ?_) ?_
  · show Steps p.tables e below (T121.setTop (mkF m 4 #[.val (.ref a1), .val (.int p1)] [(.ref tb)])) _
    refine XS.iloadN X121.here hx rfl (hb hby d17_4) rfl ?_
    show Steps p.tables e below (T121.setTop (mkF m 5 #[.val (.ref a1), .val (.int p1)] [(.int p1), (.ref tb)])) _
    refine OwnA.ldI X121 hx hZ e121 A0 h1.1 h1.2 rfl rfl (hb hby d17_5) ?_
    show Steps p.tables e below (T121.setTop (mkF m 6 #[.val (.ref a1), .val (.int p1)] [(.int (f p1.toInt))])) _
    exact k
  obtain ⟨w1, qw1⟩ : ∃ z : Int32, z = (if (f p1.toInt) = (0 : Int32) then (1 : Int32) else (0 : Int32)) := ⟨_, rfl⟩
  refine OwnWp.step (U' := T121.setTop (mkF m 14 #[.val (.ref a1), .val (.int p1)] [(.int w1)])) (fun t k => ?_) ?_
  · show Steps p.tables e below (T121.setTop (mkF m 6 #[.val (.ref a1), .val (.int p1)] [(.int (f p1.toInt))])) _
    by_cases c6_122 : (f p1.toInt) = (0 : Int32)
    · refine XS.ifNo X121.here hx rfl (hb hby d17_6) rfl (XT.i0_ne_f c6_122) ?_
      show Steps p.tables e below (T121.setTop (mkF m 9 #[.val (.ref a1), .val (.int p1)] [])) _
      refine XT.iconstV X121.here hx rfl (1 : Int32) (hb hby d17_9) rfl ?_
      show Steps p.tables e below (T121.setTop (mkF m 10 #[.val (.ref a1), .val (.int p1)] [(.int (1 : Int32))])) _
      refine XS.goto X121.here hx rfl (pc0 := 10) (pc' := 14) rfl (hb hby d17_10) (by decide) (by decide) ?_
      show Steps p.tables e below (T121.setTop (mkF m 14 #[.val (.ref a1), .val (.int p1)] [(.int (1 : Int32))])) _
      rw [show w1 = (1 : Int32) from by rw [qw1, if_pos c6_122]] at k
      exact k
    · refine XS.ifYes X121.here hx rfl (pc0 := 6) (pc' := 13) rfl (hb hby d17_6) rfl (XT.i0_ne_t c6_122) (by decide) (by decide) ?_
      show Steps p.tables e below (T121.setTop (mkF m 13 #[.val (.ref a1), .val (.int p1)] [])) _
      refine XT.iconstV X121.here hx rfl (0 : Int32) (hb hby d17_13) rfl ?_
      show Steps p.tables e below (T121.setTop (mkF m 14 #[.val (.ref a1), .val (.int p1)] [(.int (0 : Int32))])) _
      rw [show w1 = (0 : Int32) from by rw [qw1, if_neg c6_122]] at k
      exact k
  refine OwnWp.retZ X121 hx hlk Bd.returns (hb hby d17_14) (by decide) (by decide) (by rw [qw1]; split <;> first | exact Or.inl rfl | exact Or.inr rfl) ?_
  exact ⟨by rw [qw1]; rfl, N0, e121⟩
theorem d25_0 : decode prog_30_method_4_code 0 = .ok (.aload_n 0, 1) := by decide +kernel
theorem d25_1 : decode prog_30_method_4_code 1 = .ok (.getfield 7, 3) := by decide +kernel
theorem d25_4 : decode prog_30_method_4_code 4 = .ok (.aload_n 0, 1) := by decide +kernel
theorem d25_5 : decode prog_30_method_4_code 5 = .ok (.getfield 7, 3) := by decide +kernel
theorem d25_8 : decode prog_30_method_4_code 8 = .ok (.iload_n 1, 1) := by decide +kernel
theorem d25_9 : decode prog_30_method_4_code 9 = .ok (.iaload, 1) := by decide +kernel
theorem d25_10 : decode prog_30_method_4_code 10 = .ok (.invokestatic 13, 3) := by decide +kernel
theorem d25_13 : decode prog_30_method_4_code 13 = .ok (.ireturn, 1) := by decide +kernel
theorem pn_25 : plainFor (⟨"com/example/utu/utu/SlotNumbers$TablePlaces", "homeOf", "(I)I"⟩ : MethodName) = true := plainFor_of_name (by first | (simp [plainName, overriddenIn]; done) | decide +kernel)
theorem pd_25 : parseMethodDescriptor "(I)I" = some ⟨[.int], some .int⟩ := by decide +kernel
theorem ef_25 (m : MethodId) (x0 : Addr) (x1 : Int32) : entryFrame m #[(.ref x0), (.int x1)] 2 = mkF m 0 #[.val (.ref x0), .val (.int x1)] [] := by first | (simp [entryFrame, mkF, argsToLocals, Value.category, maxLocals]; done) | rfl
def Q25 (Z : State) (a1 : Addr) (p1 : Int32) (tb : Addr) (nn : Int32) (f : Int → Int32) (h0 : Heap) (n0 : Nat) (v : Option Value) (h : Heap) (L : List Loc) : Prop := v = some (.int (own_oh (f p1.toInt) nn)) ∧ Fr n0 L ∧ h = h0
set_option maxRecDepth 65536 in
set_option maxHeartbeats 40000000 in
theorem rm25 (l : Launch) (Z : State) (a0 : Array Value) (hw : ∀ d ∈ tables_1, d.before a0 Z = true) (ws : List Jvm.Cond) (a1 : Addr) (p1 : Int32) (tb : Addr) (nn : Int32) (f : Int → Int32) (h0 : Heap) (n0 : Nat) (Z0 : n0 ≤ h0.size) (F0 : Fld Z h0 a1 "com/example/utu/utu/SlotNumbers$TablePlaces" "table" "[I" (.ref tb)) (A0 : OwnA Z h0 tb .int nn (fun i => .int (f i))) (h1 : 0 ≤ p1.toInt ∧ p1.toInt < nn.toInt) (hn : own_len nn.toInt) :
    MetFree l (⟨"com/example/utu/utu/SlotNumbers$TablePlaces", "homeOf", "(I)I"⟩ : MethodName) (head1 (Jvm.Cond.code (⟨"com/example/utu/utu/SlotNumbers$TablePlaces", "homeOf", "(I)I"⟩ : MethodName) prog_30_method_4_code 2 (some .int) :: ws) ({ frames := 3, cells := 0, slots := 0, locals := 42 } : Room)) (fun a U => a = #[(.ref a1), (.int p1)] ∧ Z.Warmed39 U.vm ∧ U.heap = h0) (fun _ _ _ _ _ => True) (fun _ U oc U' => ∃ v L, oc = .returned v ∧ Q25 Z a1 p1 tb nn f h0 n0 v U'.heap L ∧ FrameEnd U oc U' L ({ frames := 3, cells := 0, slots := 0, locals := 42 } : Room).cells ({ frames := 3, cells := 0, slots := 0, locals := 42 } : Room).slots) := by
  refine MetFree.of_bodySF pn_25 hisR ?_
  intro p e s m args below meth c s₁ Bd hml0 hP hK
  obtain ⟨rfl, hZ, hh⟩ := hP
  have hx := Bd.exec
  have hby := Bd.bytes
  have hlk := BodyLoose.notSynchronized Bd
  have hml : c.maxLocals = 2 := hml0
  have hown : s.vm.findClass "com/example/utu/utu/SlotNumbers$TablePlaces" = some m.cls := findClass_of_methodNamed Bd.named
  have hnm := (name_of_methodNamed Bd.named Bd.method).1
  have X0 : Stand p l e ({ frames := 3, cells := 0, slots := 0, locals := 42 } : Room) s m #[(.ref a1), (.int p1)] below meth c s₁ [] 0 0 := Stand.of_body Bd
  have e0 : s₁.heap = h0 := by rw [← hh, Bd.state]; rfl
  have N0 := Fr.nil n0
  show OwnWp p e below s ({ frames := 3, cells := 0, slots := 0, locals := 42 } : Room).cells ({ frames := 3, cells := 0, slots := 0, locals := 42 } : Room).slots (Q25 Z a1 p1 tb nn f h0 n0) (s₁.setTop (entryFrame m #[(.ref a1), (.int p1)] 2))
  refine OwnWp.cast (ef_25 m a1 p1) ?_
  show OwnWp p e below s _ _ _ (s₁.setTop (mkF m 0 #[.val (.ref a1), .val (.int p1)] []))
  refine OwnWp.step (U' := s₁.setTop (mkF m 1 #[.val (.ref a1), .val (.int p1)] [(.ref a1)])) (fun t k => ?_) ?_
  · show Steps p.tables e below (s₁.setTop (mkF m 0 #[.val (.ref a1), .val (.int p1)] [])) _
    refine XS.aloadN X0.here hx rfl (hb hby d25_0) rfl rfl ?_
    show Steps p.tables e below (s₁.setTop (mkF m 1 #[.val (.ref a1), .val (.int p1)] [(.ref a1)])) _
    exact k
  obtain ⟨T123, X123, e123, st123⟩ := getF X0 hx hZ hown (host := "") (Or.inl (hw _ (List.mem_of_getElem? (i := 65) rfl))) Via.refl e0 F0 (g := (mkF m 1 #[.val (.ref a1), .val (.int p1)] [(.ref a1)])) rfl rfl (hb hby d25_1)
  refine OwnWp.step st123 ?_
  show OwnWp p e below s _ _ _ (T123.setTop (mkF m 4 #[.val (.ref a1), .val (.int p1)] [(.ref tb)]))
  refine OwnWp.step (U' := T123.setTop (mkF m 5 #[.val (.ref a1), .val (.int p1)] [(.ref a1), (.ref tb)])) (fun t k => ?_) ?_
  · show Steps p.tables e below (T123.setTop (mkF m 4 #[.val (.ref a1), .val (.int p1)] [(.ref tb)])) _
    refine XS.aloadN X123.here hx rfl (hb hby d25_4) rfl rfl ?_
    show Steps p.tables e below (T123.setTop (mkF m 5 #[.val (.ref a1), .val (.int p1)] [(.ref a1), (.ref tb)])) _
    exact k
  obtain ⟨T124, X124, e124, st124⟩ := getF X123 hx hZ hown (host := "") (Or.inl (hw _ (List.mem_of_getElem? (i := 65) rfl))) Via.refl e123 F0 (g := (mkF m 5 #[.val (.ref a1), .val (.int p1)] [(.ref a1), (.ref tb)])) rfl rfl (hb hby d25_5)
  refine OwnWp.step st124 ?_
  show OwnWp p e below s _ _ _ (T124.setTop (mkF m 8 #[.val (.ref a1), .val (.int p1)] [(.ref tb), (.ref tb)]))
  refine OwnWp.step (U' := T124.setTop (mkF m 10 #[.val (.ref a1), .val (.int p1)] [(.int (f p1.toInt)), (.ref tb)])) (fun t k => ?_) ?_
  · show Steps p.tables e below (T124.setTop (mkF m 8 #[.val (.ref a1), .val (.int p1)] [(.ref tb), (.ref tb)])) _
    refine XS.iloadN X124.here hx rfl (hb hby d25_8) rfl ?_
    show Steps p.tables e below (T124.setTop (mkF m 9 #[.val (.ref a1), .val (.int p1)] [(.int p1), (.ref tb), (.ref tb)])) _
    refine OwnA.ldI X124 hx hZ e124 A0 h1.1 h1.2 rfl rfl (hb hby d25_9) ?_
    show Steps p.tables e below (T124.setTop (mkF m 10 #[.val (.ref a1), .val (.int p1)] [(.int (f p1.toInt)), (.ref tb)])) _
    exact k
  obtain ⟨_, _, ⟨T125, L125, k125, n125⟩, -, X125, ⟨Lc125, hQ125, l125, y125, z125⟩, st125⟩ := callSN X124 hx (host := "com/example/utu/utu/SlotNumbers") (y := (⟨"com/example/utu/utu/SlotNumbers", "home", "([II)I"⟩ : MethodName)) hown (Cond.methodLinkNest_wide hZ (hw _ (List.mem_of_getElem? (i := 124) rfl))) (mvT hZ (hw _ (List.mem_of_getElem? (i := 27) rfl))) (mvT hZ (hw _ (List.mem_of_getElem? (i := 9) rfl))) (mvT hZ (hw _ (List.mem_of_getElem? (i := 28) rfl))) (by decide) (backOf (W := 0) (rm6 l Z a0 hw [] tb (f p1.toInt) nn f h0 n0 Z0 A0 (own_len_cases hn)) hZ (hw _ (List.mem_of_getElem? (i := 28) rfl)) (hw _ (List.mem_of_getElem? (i := 9) rfl)) (by decide) (by decide)) (g := (mkF m 10 #[.val (.ref a1), .val (.int p1)] [(.int (f p1.toInt)), (.ref tb)])) rfl (by rw [hml]; rfl) (argsL := [(.ref tb), (.int (f p1.toInt))]) (rest := []) (lenOf pd_6 rfl) rfl (by show 2 * 0 + _ ≤ _; exact Nat.le_of_eq rfl) (hb hby d25_10) (fun _ _ => ⟨rfl, e124, (by dsimp only [Pt.cells]; decide), (by dsimp only [Pt.slots]; decide)⟩)
  dsimp only [Pt.U, Pt.locs, Pt.cells, Pt.slots] at X125 l125 y125 z125 st125 hQ125
  subst l125 y125 z125
  obtain ⟨rfl, Nc125, hp125⟩ := hQ125
  have N125 := Fr.app N0 Nc125
  refine OwnWp.go st125 ?_
  have eh125 : T125.heap = h0 := hp125
  show OwnWp p e below s _ _ _ (T125.setTop (mkF m 13 #[.val (.ref a1), .val (.int p1)] [(.int (own_oh (f p1.toInt) nn))]))
  refine OwnWp.retI X125 hx hlk Bd.returns (hb hby d25_13) (by decide) (by decide) ?_
  exact ⟨rfl, N125, eh125⟩
theorem d26_0 : decode prog_30_method_5_code 0 = .ok (.aload_n 0, 1) := by decide +kernel
theorem d26_1 : decode prog_30_method_5_code 1 = .ok (.getfield 7, 3) := by decide +kernel
theorem d26_4 : decode prog_30_method_5_code 4 = .ok (.iload_n 2, 1) := by decide +kernel
theorem d26_5 : decode prog_30_method_5_code 5 = .ok (.aload_n 0, 1) := by decide +kernel
theorem d26_6 : decode prog_30_method_5_code 6 = .ok (.getfield 7, 3) := by decide +kernel
theorem d26_9 : decode prog_30_method_5_code 9 = .ok (.iload_n 1, 1) := by decide +kernel
theorem d26_10 : decode prog_30_method_5_code 10 = .ok (.iaload, 1) := by decide +kernel
theorem d26_11 : decode prog_30_method_5_code 11 = .ok (.iastore, 1) := by decide +kernel
theorem d26_12 : decode prog_30_method_5_code 12 = .ok (.aload_n 0, 1) := by decide +kernel
theorem d26_13 : decode prog_30_method_5_code 13 = .ok (.getfield 7, 3) := by decide +kernel
theorem d26_16 : decode prog_30_method_5_code 16 = .ok (.iload_n 1, 1) := by decide +kernel
theorem d26_17 : decode prog_30_method_5_code 17 = .ok (.iconst 0, 1) := by decide +kernel
theorem d26_18 : decode prog_30_method_5_code 18 = .ok (.iastore, 1) := by decide +kernel
theorem d26_19 : decode prog_30_method_5_code 19 = .ok (.return_, 1) := by decide +kernel
theorem pn_26 : plainFor (⟨"com/example/utu/utu/SlotNumbers$TablePlaces", "move", "(II)V"⟩ : MethodName) = true := plainFor_of_name (by first | (simp [plainName, overriddenIn]; done) | decide +kernel)
theorem pd_26 : parseMethodDescriptor "(II)V" = some ⟨[.int, .int], none⟩ := by decide +kernel
theorem ef_26 (m : MethodId) (x0 : Addr) (x1 : Int32) (x2 : Int32) : entryFrame m #[(.ref x0), (.int x1), (.int x2)] 3 = mkF m 0 #[.val (.ref x0), .val (.int x1), .val (.int x2)] [] := by first | (simp [entryFrame, mkF, argsToLocals, Value.category, maxLocals]; done) | rfl
def Q26 (Z : State) (a1 : Addr) (p1 : Int32) (p2 : Int32) (tb : Addr) (nn : Int32) (f : Int → Int32) (h0 : Heap) (n0 : Nat) (v : Option Value) (h : Heap) (L : List Loc) : Prop := v = none ∧ Fr n0 L ∧ Keep h0 h [tb] ∧ OwnA Z h tb .int nn (fun i => .int ((ownUpd (ownUpd f p2.toInt (f p1.toInt)) p1.toInt (0 : Int32)) i))
set_option maxRecDepth 65536 in
set_option maxHeartbeats 40000000 in
theorem rm26 (l : Launch) (Z : State) (a0 : Array Value) (hw : ∀ d ∈ tables_1, d.before a0 Z = true) (ws : List Jvm.Cond) (a1 : Addr) (p1 : Int32) (p2 : Int32) (tb : Addr) (nn : Int32) (f : Int → Int32) (h0 : Heap) (n0 : Nat) (Z0 : n0 ≤ h0.size) (g1 : n0 ≤ tb) (ne0 : a1 ≠ tb) (F0 : Fld Z h0 a1 "com/example/utu/utu/SlotNumbers$TablePlaces" "table" "[I" (.ref tb)) (A0 : OwnA Z h0 tb .int nn (fun i => .int (f i))) (h1 : 0 ≤ p1.toInt ∧ p1.toInt < nn.toInt) (h2 : 0 ≤ p2.toInt ∧ p2.toInt < nn.toInt) :
    MetFree l (⟨"com/example/utu/utu/SlotNumbers$TablePlaces", "move", "(II)V"⟩ : MethodName) (head1 (Jvm.Cond.code (⟨"com/example/utu/utu/SlotNumbers$TablePlaces", "move", "(II)V"⟩ : MethodName) prog_30_method_5_code 3 none :: ws) ({ frames := 0, cells := 0, slots := 0, locals := 0 } : Room)) (fun a U => a = #[(.ref a1), (.int p1), (.int p2)] ∧ Z.Warmed39 U.vm ∧ U.heap = h0) (fun _ _ _ _ _ => True) (fun _ U oc U' => ∃ v L, oc = .returned v ∧ Q26 Z a1 p1 p2 tb nn f h0 n0 v U'.heap L ∧ FrameEnd U oc U' L ({ frames := 0, cells := 0, slots := 0, locals := 0 } : Room).cells ({ frames := 0, cells := 0, slots := 0, locals := 0 } : Room).slots) := by
  refine MetFree.of_bodySF pn_26 hisR ?_
  intro p e s m args below meth c s₁ Bd hml0 hP hK
  obtain ⟨rfl, hZ, hh⟩ := hP
  have hx := Bd.exec
  have hby := Bd.bytes
  have hlk := BodyLoose.notSynchronized Bd
  have hml : c.maxLocals = 3 := hml0
  have hown : s.vm.findClass "com/example/utu/utu/SlotNumbers$TablePlaces" = some m.cls := findClass_of_methodNamed Bd.named
  have hnm := (name_of_methodNamed Bd.named Bd.method).1
  have X0 : Stand p l e ({ frames := 0, cells := 0, slots := 0, locals := 0 } : Room) s m #[(.ref a1), (.int p1), (.int p2)] below meth c s₁ [] 0 0 := Stand.of_body Bd
  have e0 : s₁.heap = h0 := by rw [← hh, Bd.state]; rfl
  have N0 := Fr.nil n0
  show OwnWp p e below s ({ frames := 0, cells := 0, slots := 0, locals := 0 } : Room).cells ({ frames := 0, cells := 0, slots := 0, locals := 0 } : Room).slots (Q26 Z a1 p1 p2 tb nn f h0 n0) (s₁.setTop (entryFrame m #[(.ref a1), (.int p1), (.int p2)] 3))
  refine OwnWp.cast (ef_26 m a1 p1 p2) ?_
  show OwnWp p e below s _ _ _ (s₁.setTop (mkF m 0 #[.val (.ref a1), .val (.int p1), .val (.int p2)] []))
  have K0 := Keep.refl h0 [tb]
  refine OwnWp.step (U' := s₁.setTop (mkF m 1 #[.val (.ref a1), .val (.int p1), .val (.int p2)] [(.ref a1)])) (fun t k => ?_) ?_
  · show Steps p.tables e below (s₁.setTop (mkF m 0 #[.val (.ref a1), .val (.int p1), .val (.int p2)] [])) _
    refine XS.aloadN X0.here hx rfl (hb hby d26_0) rfl rfl ?_
    show Steps p.tables e below (s₁.setTop (mkF m 1 #[.val (.ref a1), .val (.int p1), .val (.int p2)] [(.ref a1)])) _
    exact k
  obtain ⟨T126, X126, e126, st126⟩ := getF X0 hx hZ hown (host := "") (Or.inl (hw _ (List.mem_of_getElem? (i := 65) rfl))) Via.refl e0 F0 (g := (mkF m 1 #[.val (.ref a1), .val (.int p1), .val (.int p2)] [(.ref a1)])) rfl rfl (hb hby d26_1)
  refine OwnWp.step st126 ?_
  show OwnWp p e below s _ _ _ (T126.setTop (mkF m 4 #[.val (.ref a1), .val (.int p1), .val (.int p2)] [(.ref tb)]))
  refine OwnWp.step (U' := T126.setTop (mkF m 6 #[.val (.ref a1), .val (.int p1), .val (.int p2)] [(.ref a1), (.int p2), (.ref tb)])) (fun t k => ?_) ?_
  · show Steps p.tables e below (T126.setTop (mkF m 4 #[.val (.ref a1), .val (.int p1), .val (.int p2)] [(.ref tb)])) _
    refine XS.iloadN X126.here hx rfl (hb hby d26_4) rfl ?_
    show Steps p.tables e below (T126.setTop (mkF m 5 #[.val (.ref a1), .val (.int p1), .val (.int p2)] [(.int p2), (.ref tb)])) _
    refine XS.aloadN X126.here hx rfl (hb hby d26_5) rfl rfl ?_
    show Steps p.tables e below (T126.setTop (mkF m 6 #[.val (.ref a1), .val (.int p1), .val (.int p2)] [(.ref a1), (.int p2), (.ref tb)])) _
    exact k
  obtain ⟨T127, X127, e127, st127⟩ := getF X126 hx hZ hown (host := "") (Or.inl (hw _ (List.mem_of_getElem? (i := 65) rfl))) Via.refl e126 F0 (g := (mkF m 6 #[.val (.ref a1), .val (.int p1), .val (.int p2)] [(.ref a1), (.int p2), (.ref tb)])) rfl rfl (hb hby d26_6)
  refine OwnWp.step st127 ?_
  show OwnWp p e below s _ _ _ (T127.setTop (mkF m 9 #[.val (.ref a1), .val (.int p1), .val (.int p2)] [(.ref tb), (.int p2), (.ref tb)]))
  refine OwnWp.step (U' := T127.setTop (mkF m 11 #[.val (.ref a1), .val (.int p1), .val (.int p2)] [(.int (f p1.toInt)), (.int p2), (.ref tb)])) (fun t k => ?_) ?_
  · show Steps p.tables e below (T127.setTop (mkF m 9 #[.val (.ref a1), .val (.int p1), .val (.int p2)] [(.ref tb), (.int p2), (.ref tb)])) _
    refine XS.iloadN X127.here hx rfl (hb hby d26_9) rfl ?_
    show Steps p.tables e below (T127.setTop (mkF m 10 #[.val (.ref a1), .val (.int p1), .val (.int p2)] [(.int p1), (.ref tb), (.int p2), (.ref tb)])) _
    refine OwnA.ldI X127 hx hZ e127 A0 h1.1 h1.2 rfl rfl (hb hby d26_10) ?_
    show Steps p.tables e below (T127.setTop (mkF m 11 #[.val (.ref a1), .val (.int p1), .val (.int p2)] [(.int (f p1.toInt)), (.int p2), (.ref tb)])) _
    exact k
  obtain ⟨T128, h128, L128, X128, e128, N128, K128, F128, st128⟩ := OwnA.stI X127 hx hZ e127 N0 g1 A0 h2.1 h2.2 (g := (mkF m 11 #[.val (.ref a1), .val (.int p1), .val (.int p2)] [(.int (f p1.toInt)), (.int p2), (.ref tb)])) rfl rfl (hb hby d26_11)
  refine OwnWp.step st128 ?_
  have Z128 : n0 ≤ h128.size := Nat.le_trans Z0 K128.1
  have f129 := Fld.keep F0 K128 (ninS ne0 nin0)
  have F130 : OwnA Z h128 tb .int nn (fun zi => .int ((ownUpd f p2.toInt (f p1.toInt)) zi)) := F128.congr (fun zi _ _ => by exact ownUpd_int f _ _ zi)
  have K131 := Keep.trans K0 K128 (allS (Or.inl (List.mem_of_getElem? (i := 0) rfl)) all0)
  show OwnWp p e below s _ _ _ (T128.setTop (mkF m 12 #[.val (.ref a1), .val (.int p1), .val (.int p2)] []))
  refine OwnWp.step (U' := T128.setTop (mkF m 13 #[.val (.ref a1), .val (.int p1), .val (.int p2)] [(.ref a1)])) (fun t k => ?_) ?_
  · show Steps p.tables e below (T128.setTop (mkF m 12 #[.val (.ref a1), .val (.int p1), .val (.int p2)] [])) _
    refine XS.aloadN X128.here hx rfl (hb hby d26_12) rfl rfl ?_
    show Steps p.tables e below (T128.setTop (mkF m 13 #[.val (.ref a1), .val (.int p1), .val (.int p2)] [(.ref a1)])) _
    exact k
  obtain ⟨T132, X132, e132, st132⟩ := getF X128 hx hZ hown (host := "") (Or.inl (hw _ (List.mem_of_getElem? (i := 65) rfl))) Via.refl e128 f129 (g := (mkF m 13 #[.val (.ref a1), .val (.int p1), .val (.int p2)] [(.ref a1)])) rfl rfl (hb hby d26_13)
  refine OwnWp.step st132 ?_
  show OwnWp p e below s _ _ _ (T132.setTop (mkF m 16 #[.val (.ref a1), .val (.int p1), .val (.int p2)] [(.ref tb)]))
  refine OwnWp.step (U' := T132.setTop (mkF m 18 #[.val (.ref a1), .val (.int p1), .val (.int p2)] [(.int (0 : Int32)), (.int p1), (.ref tb)])) (fun t k => ?_) ?_
  · show Steps p.tables e below (T132.setTop (mkF m 16 #[.val (.ref a1), .val (.int p1), .val (.int p2)] [(.ref tb)])) _
    refine XS.iloadN X132.here hx rfl (hb hby d26_16) rfl ?_
    show Steps p.tables e below (T132.setTop (mkF m 17 #[.val (.ref a1), .val (.int p1), .val (.int p2)] [(.int p1), (.ref tb)])) _
    refine XT.iconstV X132.here hx rfl (0 : Int32) (hb hby d26_17) rfl ?_
    show Steps p.tables e below (T132.setTop (mkF m 18 #[.val (.ref a1), .val (.int p1), .val (.int p2)] [(.int (0 : Int32)), (.int p1), (.ref tb)])) _
    exact k
  obtain ⟨T133, h133, L133, X133, e133, N133, K133, F133, st133⟩ := OwnA.stI X132 hx hZ e132 N128 g1 F130 h1.1 h1.2 (g := (mkF m 18 #[.val (.ref a1), .val (.int p1), .val (.int p2)] [(.int (0 : Int32)), (.int p1), (.ref tb)])) rfl rfl (hb hby d26_18)
  refine OwnWp.step st133 ?_
  have Z133 : n0 ≤ h133.size := Nat.le_trans Z128 K133.1
  have f134 := Fld.keep f129 K133 (ninS ne0 nin0)
  have F135 : OwnA Z h133 tb .int nn (fun zi => .int ((ownUpd (ownUpd f p2.toInt (f p1.toInt)) p1.toInt (0 : Int32)) zi)) := F133.congr (fun zi _ _ => by exact ownUpd_int (ownUpd f p2.toInt (f p1.toInt)) _ _ zi)
  have K136 := Keep.trans K131 K133 (allS (Or.inl (List.mem_of_getElem? (i := 0) rfl)) all0)
  show OwnWp p e below s _ _ _ (T133.setTop (mkF m 19 #[.val (.ref a1), .val (.int p1), .val (.int p2)] []))
  refine OwnWp.retV X133 hx hlk Bd.returns (hb hby d26_19) (by decide) (by decide) ?_
  rw [e133]
  exact ⟨rfl, N133, K136, F135⟩
theorem d14_0 : decode prog_19_method_6_code 0 = .ok (.aload_n 0, 1) := by decide +kernel
theorem d14_1 : decode prog_19_method_6_code 1 = .ok (.invokeinterface 35 1, 5) := by decide +kernel
theorem d14_6 : decode prog_19_method_6_code 6 = .ok (.istore_n 2, 1) := by decide +kernel
theorem d14_7 : decode prog_19_method_6_code 7 = .ok (.iload_n 2, 1) := by decide +kernel
theorem d14_8 : decode prog_19_method_6_code 8 = .ok (.iconst 1, 1) := by decide +kernel
theorem d14_9 : decode prog_19_method_6_code 9 = .ok (.isub, 1) := by decide +kernel
theorem d14_10 : decode prog_19_method_6_code 10 = .ok (.istore_n 3, 1) := by decide +kernel
theorem d14_11 : decode prog_19_method_6_code 11 = .ok (.iload_n 1, 1) := by decide +kernel
theorem d14_12 : decode prog_19_method_6_code 12 = .ok (.istore 4, 2) := by decide +kernel
theorem d14_14 : decode prog_19_method_6_code 14 = .ok (.iload 4, 2) := by decide +kernel
theorem d14_16 : decode prog_19_method_6_code 16 = .ok (.iload_n 2, 1) := by decide +kernel
theorem d14_17 : decode prog_19_method_6_code 17 = .ok (.invokestatic 40, 3) := by decide +kernel
theorem d14_20 : decode prog_19_method_6_code 20 = .ok (.istore 5, 2) := by decide +kernel
theorem d14_22 : decode prog_19_method_6_code 22 = .ok (.aload_n 0, 1) := by decide +kernel
theorem d14_23 : decode prog_19_method_6_code 23 = .ok (.iload 5, 2) := by decide +kernel
theorem d14_25 : decode prog_19_method_6_code 25 = .ok (.invokeinterface 43 2, 5) := by decide +kernel
theorem d14_30 : decode prog_19_method_6_code 30 = .ok (.ifCond .ne 51, 3) := by decide +kernel
theorem d14_33 : decode prog_19_method_6_code 33 = .ok (.iload 5, 2) := by decide +kernel
theorem d14_35 : decode prog_19_method_6_code 35 = .ok (.aload_n 0, 1) := by decide +kernel
theorem d14_36 : decode prog_19_method_6_code 36 = .ok (.iload 5, 2) := by decide +kernel
theorem d14_38 : decode prog_19_method_6_code 38 = .ok (.invokeinterface 47 2, 5) := by decide +kernel
theorem d14_43 : decode prog_19_method_6_code 43 = .ok (.isub, 1) := by decide +kernel
theorem d14_44 : decode prog_19_method_6_code 44 = .ok (.iload_n 3, 1) := by decide +kernel
theorem d14_45 : decode prog_19_method_6_code 45 = .ok (.iand, 1) := by decide +kernel
theorem d14_46 : decode prog_19_method_6_code 46 = .ok (.iload 5, 2) := by decide +kernel
theorem d14_48 : decode prog_19_method_6_code 48 = .ok (.iload 4, 2) := by decide +kernel
theorem d14_50 : decode prog_19_method_6_code 50 = .ok (.isub, 1) := by decide +kernel
theorem d14_51 : decode prog_19_method_6_code 51 = .ok (.iload_n 3, 1) := by decide +kernel
theorem d14_52 : decode prog_19_method_6_code 52 = .ok (.iand, 1) := by decide +kernel
theorem d14_53 : decode prog_19_method_6_code 53 = .ok (.if_icmp .lt 17, 3) := by decide +kernel
theorem d14_56 : decode prog_19_method_6_code 56 = .ok (.aload_n 0, 1) := by decide +kernel
theorem d14_57 : decode prog_19_method_6_code 57 = .ok (.iload 5, 2) := by decide +kernel
theorem d14_59 : decode prog_19_method_6_code 59 = .ok (.iload 4, 2) := by decide +kernel
theorem d14_61 : decode prog_19_method_6_code 61 = .ok (.invokeinterface 50 3, 5) := by decide +kernel
theorem d14_66 : decode prog_19_method_6_code 66 = .ok (.iload 5, 2) := by decide +kernel
theorem d14_68 : decode prog_19_method_6_code 68 = .ok (.istore 4, 2) := by decide +kernel
theorem d14_70 : decode prog_19_method_6_code 70 = .ok (.iload 5, 2) := by decide +kernel
theorem d14_72 : decode prog_19_method_6_code 72 = .ok (.iload_n 2, 1) := by decide +kernel
theorem d14_73 : decode prog_19_method_6_code 73 = .ok (.invokestatic 40, 3) := by decide +kernel
theorem d14_76 : decode prog_19_method_6_code 76 = .ok (.istore 5, 2) := by decide +kernel
theorem d14_78 : decode prog_19_method_6_code 78 = .ok (.goto (-56), 3) := by decide +kernel
theorem d14_81 : decode prog_19_method_6_code 81 = .ok (.return_, 1) := by decide +kernel
theorem pn_14 : plainFor (⟨"com/example/utu/utu/OpenAddressing", "closeGap", "(Lcom/example/utu/utu/OpenAddressing$Places;I)V"⟩ : MethodName) = true := plainFor_of_name (by first | (simp [plainName, overriddenIn]; done) | decide +kernel)
theorem pd_14 : parseMethodDescriptor "(Lcom/example/utu/utu/OpenAddressing$Places;I)V" = some ⟨[(.object "com/example/utu/utu/OpenAddressing$Places"), .int], none⟩ := by decide +kernel
theorem ef_14 (m : MethodId) (x0 : Addr) (x1 : Int32) : entryFrame m #[(.ref x0), (.int x1)] 6 = mkF m 0 #[.val (.ref x0), .val (.int x1), .unset, .unset, .unset, .unset] [] := by first | (simp [entryFrame, mkF, argsToLocals, Value.category, maxLocals]; done) | rfl
def Q14 (Z : State) (a1 : Addr) (p1 : Int32) (tb : Addr) (nn : Int32) (f : Int → Int32) (h0 : Heap) (n0 : Nat) (v : Option Value) (h : Heap) (L : List Loc) : Prop := v = none ∧ Fr n0 L ∧ Keep h0 h [tb] ∧ ∃ f' : Int → Int32, OwnA Z h tb .int nn (fun i => .int (f' i)) ∧ own_same nn.toInt f f'
set_option maxRecDepth 65536 in
set_option maxHeartbeats 40000000 in
theorem rm14 (l : Launch) (Z : State) (a0 : Array Value) (hw : ∀ d ∈ tables_1, d.before a0 Z = true) (ws : List Jvm.Cond) (a1 : Addr) (p1 : Int32) (tb : Addr) (nn : Int32) (f : Int → Int32) (h0 : Heap) (n0 : Nat) (Z0 : n0 ≤ h0.size) (g1 : n0 ≤ tb) (ne0 : a1 ≠ tb) (E0 : Exa Z h0 a1 "com/example/utu/utu/SlotNumbers$TablePlaces") (F0 : Fld Z h0 a1 "com/example/utu/utu/SlotNumbers$TablePlaces" "table" "[I" (.ref tb)) (A0 : OwnA Z h0 tb .int nn (fun i => .int (f i))) (hn : own_len nn.toInt) (hp : 0 ≤ p1.toInt ∧ p1.toInt < nn.toInt) (hf0 : f p1.toInt = 0) (hI : own_inj nn.toInt f) (hz : ∃ z : Int, 0 ≤ z ∧ z < nn.toInt ∧ z ≠ p1.toInt ∧ f z = 0) :
    MetFree l (⟨"com/example/utu/utu/OpenAddressing", "closeGap", "(Lcom/example/utu/utu/OpenAddressing$Places;I)V"⟩ : MethodName) (head1 (Jvm.Cond.code (⟨"com/example/utu/utu/OpenAddressing", "closeGap", "(Lcom/example/utu/utu/OpenAddressing$Places;I)V"⟩ : MethodName) prog_19_method_6_code 6 none :: ws) ({ frames := 4, cells := 0, slots := 0, locals := 56 } : Room)) (fun a U => a = #[(.ref a1), (.int p1)] ∧ Z.Warmed39 U.vm ∧ U.heap = h0) (fun _ _ _ _ _ => True) (fun _ U oc U' => ∃ v L, oc = .returned v ∧ Q14 Z a1 p1 tb nn f h0 n0 v U'.heap L ∧ FrameEnd U oc U' L ({ frames := 4, cells := 0, slots := 0, locals := 56 } : Room).cells ({ frames := 4, cells := 0, slots := 0, locals := 56 } : Room).slots) := by
  refine MetFree.of_bodySF pn_14 hisR ?_
  intro p e s m args below meth c s₁ Bd hml0 hP hK
  obtain ⟨rfl, hZ, hh⟩ := hP
  have hx := Bd.exec
  have hby := Bd.bytes
  have hlk := BodyLoose.notSynchronized Bd
  have hml : c.maxLocals = 6 := hml0
  have hown : s.vm.findClass "com/example/utu/utu/OpenAddressing" = some m.cls := findClass_of_methodNamed Bd.named
  have hnm := (name_of_methodNamed Bd.named Bd.method).1
  have X0 : Stand p l e ({ frames := 4, cells := 0, slots := 0, locals := 56 } : Room) s m #[(.ref a1), (.int p1)] below meth c s₁ [] 0 0 := Stand.of_body Bd
  have e0 : s₁.heap = h0 := by rw [← hh, Bd.state]; rfl
  have N0 := Fr.nil n0
  show OwnWp p e below s ({ frames := 4, cells := 0, slots := 0, locals := 56 } : Room).cells ({ frames := 4, cells := 0, slots := 0, locals := 56 } : Room).slots (Q14 Z a1 p1 tb nn f h0 n0) (s₁.setTop (entryFrame m #[(.ref a1), (.int p1)] 6))
  refine OwnWp.cast (ef_14 m a1 p1) ?_
  show OwnWp p e below s _ _ _ (s₁.setTop (mkF m 0 #[.val (.ref a1), .val (.int p1), .unset, .unset, .unset, .unset] []))
  have K0 := Keep.refl h0 [tb]
  obtain ⟨z, z1, z2, z3, z4⟩ := hz
  refine OwnWp.step (U' := s₁.setTop (mkF m 1 #[.val (.ref a1), .val (.int p1), .unset, .unset, .unset, .unset] [(.ref a1)])) (fun t k => ?_) ?_
  · show Steps p.tables e below (s₁.setTop (mkF m 0 #[.val (.ref a1), .val (.int p1), .unset, .unset, .unset, .unset] [])) _
    refine XS.aloadN X0.here hx rfl (hb hby d14_0) rfl rfl ?_
    show Steps p.tables e below (s₁.setTop (mkF m 1 #[.val (.ref a1), .val (.int p1), .unset, .unset, .unset, .unset] [(.ref a1)])) _
    exact k
  obtain ⟨cq137, kq137, qa137, qb137, qc137⟩ := isOf hZ e0 E0
  obtain ⟨_, _, ⟨T137, L137, k137, n137⟩, -, X137, ⟨Lc137, hQ137, l137, y137, z137⟩, st137⟩ := X0.interfaceBack hx (xi := (⟨"com/example/utu/utu/OpenAddressing$Places", "length", "()I"⟩ : MethodName)) (y := (⟨"com/example/utu/utu/SlotNumbers$TablePlaces", "length", "()I"⟩ : MethodName)) hown (mvT hZ (hw _ (List.mem_of_getElem? (i := 70) rfl))) (mvT hZ (hw _ (List.mem_of_getElem? (i := 71) rfl))) (mvT hZ (hw _ (List.mem_of_getElem? (i := 72) rfl))) (mvT hZ (hw _ (List.mem_of_getElem? (i := 73) rfl))) (mvT hZ (hw _ (List.mem_of_getElem? (i := 74) rfl))) (mvT hZ (hw _ (List.mem_of_getElem? (i := 75) rfl))) (mvT hZ (hw _ (List.mem_of_getElem? (i := 76) rfl))) (mvT hZ (hw _ (List.mem_of_getElem? (i := 77) rfl))) (by decide) (backOf (W := 0) (rm15 l Z a0 hw [] a1  tb nn f h0 n0 Z0  F0 A0 ) hZ (hw _ (List.mem_of_getElem? (i := 78) rfl)) (hw _ (List.mem_of_getElem? (i := 55) rfl)) (by decide) (by decide)) qa137 qb137 qc137 (g := (mkF m 1 #[.val (.ref a1), .val (.int p1), .unset, .unset, .unset, .unset] [(.ref a1)])) rfl (by rw [hml]; rfl) (Steps.refl _) (argsL := []) (rest := []) (lenOf pd_15 rfl) rfl (by show 2 * 0 + _ ≤ _; exact Nat.le_of_eq rfl) (hb hby d14_1) (fun _ _ => ⟨rfl, e0, (by dsimp only [Pt.cells]; decide), (by dsimp only [Pt.slots]; decide)⟩)
  dsimp only [Pt.U, Pt.locs, Pt.cells, Pt.slots] at X137 l137 y137 z137 st137 hQ137
  subst l137 y137 z137
  obtain ⟨rfl, Nc137, hp137⟩ := hQ137
  have N137 := Fr.app N0 Nc137
  refine OwnWp.go st137 ?_
  have eh137 : T137.heap = h0 := hp137
  show OwnWp p e below s _ _ _ (T137.setTop (mkF m 6 #[.val (.ref a1), .val (.int p1), .unset, .unset, .unset, .unset] [(.int nn)]))
  obtain ⟨w1, qw1⟩ : ∃ z : Int32, z = (nn - (1 : Int32)) := ⟨_, rfl⟩
  refine OwnWp.step (U' := T137.setTop (mkF m 11 #[.val (.ref a1), .val (.int p1), .val (.int nn), .val (.int w1), .unset, .unset] [])) (fun t k => ?_) ?_
  · show Steps p.tables e below (T137.setTop (mkF m 6 #[.val (.ref a1), .val (.int p1), .unset, .unset, .unset, .unset] [(.int nn)])) _
    refine XS.istoreN X137.here hx rfl (hb hby d14_6) rfl (l' := #[.val (.ref a1), .val (.int p1), .val (.int nn), .unset, .unset, .unset]) rfl ?_
    show Steps p.tables e below (T137.setTop (mkF m 7 #[.val (.ref a1), .val (.int p1), .val (.int nn), .unset, .unset, .unset] [])) _
    refine XS.iloadN X137.here hx rfl (hb hby d14_7) rfl ?_
    show Steps p.tables e below (T137.setTop (mkF m 8 #[.val (.ref a1), .val (.int p1), .val (.int nn), .unset, .unset, .unset] [(.int nn)])) _
    refine XT.iconstV X137.here hx rfl (1 : Int32) (hb hby d14_8) rfl ?_
    show Steps p.tables e below (T137.setTop (mkF m 9 #[.val (.ref a1), .val (.int p1), .val (.int nn), .unset, .unset, .unset] [(.int (1 : Int32)), (.int nn)])) _
    refine XS.isub X137.here hx rfl (hb hby d14_9) rfl ?_
    show Steps p.tables e below (T137.setTop (mkF m 10 #[.val (.ref a1), .val (.int p1), .val (.int nn), .unset, .unset, .unset] [(.int (nn - (1 : Int32)))])) _
    refine XS.istoreN X137.here hx rfl (hb hby d14_10) rfl (l' := #[.val (.ref a1), .val (.int p1), .val (.int nn), .val (.int (nn - (1 : Int32))), .unset, .unset]) rfl ?_
    show Steps p.tables e below (T137.setTop (mkF m 11 #[.val (.ref a1), .val (.int p1), .val (.int nn), .val (.int (nn - (1 : Int32))), .unset, .unset] [])) _
    rw [qw1] at k
    exact k
  refine OwnWp.step (U' := T137.setTop (mkF m 17 #[.val (.ref a1), .val (.int p1), .val (.int nn), .val (.int w1), .val (.int p1), .unset] [(.int nn), (.int p1)])) (fun t k => ?_) ?_
  · show Steps p.tables e below (T137.setTop (mkF m 11 #[.val (.ref a1), .val (.int p1), .val (.int nn), .val (.int w1), .unset, .unset] [])) _
    refine XS.iloadN X137.here hx rfl (hb hby d14_11) rfl ?_
    show Steps p.tables e below (T137.setTop (mkF m 12 #[.val (.ref a1), .val (.int p1), .val (.int nn), .val (.int w1), .unset, .unset] [(.int p1)])) _
    refine XS.istore X137.here hx rfl (hb hby d14_12) rfl (l' := #[.val (.ref a1), .val (.int p1), .val (.int nn), .val (.int w1), .val (.int p1), .unset]) rfl ?_
    show Steps p.tables e below (T137.setTop (mkF m 14 #[.val (.ref a1), .val (.int p1), .val (.int nn), .val (.int w1), .val (.int p1), .unset] [])) _
    refine XS.iload X137.here hx rfl (hb hby d14_14) rfl ?_
    show Steps p.tables e below (T137.setTop (mkF m 16 #[.val (.ref a1), .val (.int p1), .val (.int nn), .val (.int w1), .val (.int p1), .unset] [(.int p1)])) _
    refine XS.iloadN X137.here hx rfl (hb hby d14_16) rfl ?_
    show Steps p.tables e below (T137.setTop (mkF m 17 #[.val (.ref a1), .val (.int p1), .val (.int nn), .val (.int w1), .val (.int p1), .unset] [(.int nn), (.int p1)])) _
    exact k
  show OwnWp p e below s _ _ _ (T137.setTop (mkF m 17 #[.val (.ref a1), .val (.int p1), .val (.int nn), .val (.int w1), .val (.int p1), .unset] [(.int nn), (.int p1)]))
  obtain ⟨_, _, ⟨T138, L138, k138, n138⟩, -, X138, ⟨Lc138, hQ138, l138, y138, z138⟩, st138⟩ := Jvm.LawKit.callS X137 hx (y := (⟨"com/example/utu/utu/OpenAddressing", "next", "(II)I"⟩ : MethodName)) hown (mvT hZ (hw _ (List.mem_of_getElem? (i := 79) rfl))) (mvT hZ (hw _ (List.mem_of_getElem? (i := 80) rfl))) (mvT hZ (hw _ (List.mem_of_getElem? (i := 31) rfl))) (mvT hZ (hw _ (List.mem_of_getElem? (i := 81) rfl))) (by decide) (backOf (W := 0) (rm16 l Z a0 hw [] p1 nn h0 n0 Z0 ) hZ (hw _ (List.mem_of_getElem? (i := 81) rfl)) (hw _ (List.mem_of_getElem? (i := 31) rfl)) (by decide) (by decide)) (g := (mkF m 17 #[.val (.ref a1), .val (.int p1), .val (.int nn), .val (.int w1), .val (.int p1), .unset] [(.int nn), (.int p1)])) rfl (by rw [hml]; rfl) (argsL := [(.int p1), (.int nn)]) (rest := []) (lenOf pd_16 rfl) rfl (by show 2 * 0 + _ ≤ _; exact Nat.le_of_eq rfl) (hb hby d14_17) (fun _ _ => ⟨rfl, eh137, (by dsimp only [Pt.cells]; decide), (by dsimp only [Pt.slots]; decide)⟩)
  dsimp only [Pt.U, Pt.locs, Pt.cells, Pt.slots] at X138 l138 y138 z138 st138 hQ138
  subst l138 y138 z138
  obtain ⟨rfl, Nc138, hp138⟩ := hQ138
  have N138 := Fr.app N137 Nc138
  refine OwnWp.step st138 ?_
  have eh138 : T138.heap = h0 := hp138
  show OwnWp p e below s _ _ _ (T138.setTop (mkF m 20 #[.val (.ref a1), .val (.int p1), .val (.int nn), .val (.int w1), .val (.int p1), .unset] [(.int (own_nxt p1 nn))]))
  obtain ⟨w2, qw2⟩ : ∃ z : Int32, z = (own_nxt p1 nn) := ⟨_, rfl⟩
  refine OwnWp.step (U' := T138.setTop (mkF m 22 #[.val (.ref a1), .val (.int p1), .val (.int nn), .val (.int w1), .val (.int p1), .val (.int w2)] [])) (fun t k => ?_) ?_
  · show Steps p.tables e below (T138.setTop (mkF m 20 #[.val (.ref a1), .val (.int p1), .val (.int nn), .val (.int w1), .val (.int p1), .unset] [(.int (own_nxt p1 nn))])) _
    refine XS.istore X138.here hx rfl (hb hby d14_20) rfl (l' := #[.val (.ref a1), .val (.int p1), .val (.int nn), .val (.int w1), .val (.int p1), .val (.int (own_nxt p1 nn))]) rfl ?_
    show Steps p.tables e below (T138.setTop (mkF m 22 #[.val (.ref a1), .val (.int p1), .val (.int nn), .val (.int w1), .val (.int p1), .val (.int (own_nxt p1 nn))] [])) _
    rw [qw2] at k
    exact k
  have hloop : ∀ (k : Nat) (T139 : State) (h139 : Heap) (L139 : List Loc) (gp : Int32) (pl : Int32) (g : Int → Int32) (X139 : Stand p l e ({ frames := 4, cells := 0, slots := 0, locals := 56 } : Room) s m #[(.ref a1), (.int p1)] below meth c T139 L139 0 0) (e139 : T139.heap = h139) (N139 : Fr n0 L139) (Z139 : n0 ≤ h139.size) (f140 : Exa Z h139 a1 "com/example/utu/utu/SlotNumbers$TablePlaces") (f141 : Fld Z h139 a1 "com/example/utu/utu/SlotNumbers$TablePlaces" "table" "[I" (.ref tb)) (f142 : OwnA Z h139 tb .int nn (fun zi => .int (g zi))) (K143 : Keep h0 h139 [tb]) (hgp : 0 ≤ gp.toInt ∧ gp.toInt < nn.toInt) (hg0 : g gp.toInt = 0) (hpl : 0 ≤ pl.toInt ∧ pl.toInt < nn.toInt) (hzg : g z = 0 ∧ z ≠ gp.toInt) (hk : (pl.toInt + (k : Int)) % nn.toInt = z) (hS : own_same nn.toInt f g), OwnWp p e below s ({ frames := 4, cells := 0, slots := 0, locals := 56 } : Room).cells ({ frames := 4, cells := 0, slots := 0, locals := 56 } : Room).slots (Q14 Z a1 p1 tb nn f h0 n0) (T139.setTop (mkF m 22 #[.val (.ref a1), .val (.int p1), .val (.int nn), .val (.int w1), .val (.int gp), .val (.int pl)] [])) := by
    intro k
    induction k with
    | zero =>
      intro T139 h139 L139 gp pl g X139 e139 N139 Z139 f140 f141 f142 K143 hgp hg0 hpl hzg hk hS
      refine OwnWp.step (U' := T139.setTop (mkF m 25 #[.val (.ref a1), .val (.int p1), .val (.int nn), .val (.int w1), .val (.int gp), .val (.int pl)] [(.int pl), (.ref a1)])) (fun t k => ?_) ?_
      · show Steps p.tables e below (T139.setTop (mkF m 22 #[.val (.ref a1), .val (.int p1), .val (.int nn), .val (.int w1), .val (.int gp), .val (.int pl)] [])) _
        refine XS.aloadN X139.here hx rfl (hb hby d14_22) rfl rfl ?_
        show Steps p.tables e below (T139.setTop (mkF m 23 #[.val (.ref a1), .val (.int p1), .val (.int nn), .val (.int w1), .val (.int gp), .val (.int pl)] [(.ref a1)])) _
        refine XS.iload X139.here hx rfl (hb hby d14_23) rfl ?_
        show Steps p.tables e below (T139.setTop (mkF m 25 #[.val (.ref a1), .val (.int p1), .val (.int nn), .val (.int w1), .val (.int gp), .val (.int pl)] [(.int pl), (.ref a1)])) _
        exact k
      obtain ⟨cq144, kq144, qa144, qb144, qc144⟩ := isOf hZ e139 f140
      obtain ⟨_, _, ⟨T144, L144, k144, n144⟩, -, X144, ⟨Lc144, hQ144, l144, y144, z144⟩, st144⟩ := X139.interfaceBack hx (xi := (⟨"com/example/utu/utu/OpenAddressing$Places", "isFree", "(I)Z"⟩ : MethodName)) (y := (⟨"com/example/utu/utu/SlotNumbers$TablePlaces", "isFree", "(I)Z"⟩ : MethodName)) hown (mvT hZ (hw _ (List.mem_of_getElem? (i := 82) rfl))) (mvT hZ (hw _ (List.mem_of_getElem? (i := 83) rfl))) (mvT hZ (hw _ (List.mem_of_getElem? (i := 84) rfl))) (mvT hZ (hw _ (List.mem_of_getElem? (i := 85) rfl))) (mvT hZ (hw _ (List.mem_of_getElem? (i := 86) rfl))) (mvT hZ (hw _ (List.mem_of_getElem? (i := 87) rfl))) (mvT hZ (hw _ (List.mem_of_getElem? (i := 88) rfl))) (mvT hZ (hw _ (List.mem_of_getElem? (i := 77) rfl))) (by decide) (backOf (W := 0) (rm17 l Z a0 hw [] a1 pl tb nn g h139 n0 Z139  f141 f142 hpl) hZ (hw _ (List.mem_of_getElem? (i := 89) rfl)) (hw _ (List.mem_of_getElem? (i := 55) rfl)) (by decide) (by decide)) qa144 qb144 qc144 (g := (mkF m 25 #[.val (.ref a1), .val (.int p1), .val (.int nn), .val (.int w1), .val (.int gp), .val (.int pl)] [(.int pl), (.ref a1)])) rfl (by rw [hml]; rfl) (Steps.refl _) (argsL := [(.int pl)]) (rest := []) (lenOf pd_17 rfl) rfl (by show 2 * 0 + _ ≤ _; exact Nat.le_of_eq rfl) (hb hby d14_25) (fun _ _ => ⟨rfl, e139, (by dsimp only [Pt.cells]; decide), (by dsimp only [Pt.slots]; decide)⟩)
      dsimp only [Pt.U, Pt.locs, Pt.cells, Pt.slots] at X144 l144 y144 z144 st144 hQ144
      subst l144 y144 z144
      obtain ⟨rfl, Nc144, hp144⟩ := hQ144
      have N144 := Fr.app N139 Nc144
      refine OwnWp.go st144 ?_
      have eh144 : T144.heap = h139 := hp144
      show OwnWp p e below s _ _ _ (T144.setTop (mkF m 30 #[.val (.ref a1), .val (.int p1), .val (.int nn), .val (.int w1), .val (.int gp), .val (.int pl)] [(.int (own_b (g pl.toInt)))]))
      by_cases c30_145 : (own_b (g pl.toInt)) = (0 : Int32)
      · refine OwnWp.step (U' := T144.setTop (mkF m 33 #[.val (.ref a1), .val (.int p1), .val (.int nn), .val (.int w1), .val (.int gp), .val (.int pl)] [])) (fun t k => ?_) ?_
        · show Steps p.tables e below (T144.setTop (mkF m 30 #[.val (.ref a1), .val (.int p1), .val (.int nn), .val (.int w1), .val (.int gp), .val (.int pl)] [(.int (own_b (g pl.toInt)))])) _
          refine XS.ifNo X144.here hx rfl (hb hby d14_30) rfl (XT.i0_ne_f c30_145) ?_
          exact k
        have hnz : g pl.toInt ≠ 0 := own_b0 c30_145
        exact absurd (own_gap0 hn hpl hk hzg.1) hnz
      · refine OwnWp.step (U' := T144.setTop (mkF m 81 #[.val (.ref a1), .val (.int p1), .val (.int nn), .val (.int w1), .val (.int gp), .val (.int pl)] [])) (fun t k => ?_) ?_
        · show Steps p.tables e below (T144.setTop (mkF m 30 #[.val (.ref a1), .val (.int p1), .val (.int nn), .val (.int w1), .val (.int gp), .val (.int pl)] [(.int (own_b (g pl.toInt)))])) _
          refine XS.ifYes X144.here hx rfl (pc0 := 30) (pc' := 81) rfl (hb hby d14_30) rfl (XT.i0_ne_t c30_145) (by decide) (by decide) ?_
          exact k
        refine OwnWp.retV X144 hx hlk Bd.returns (hb hby d14_81) (by decide) (by decide) ?_
        rw [eh144]
        exact ⟨rfl, N144, K143, g, f142, hS⟩
    | succ k ih =>
      intro T139 h139 L139 gp pl g X139 e139 N139 Z139 f140 f141 f142 K143 hgp hg0 hpl hzg hk hS
      refine OwnWp.step (U' := T139.setTop (mkF m 25 #[.val (.ref a1), .val (.int p1), .val (.int nn), .val (.int w1), .val (.int gp), .val (.int pl)] [(.int pl), (.ref a1)])) (fun t k => ?_) ?_
      · show Steps p.tables e below (T139.setTop (mkF m 22 #[.val (.ref a1), .val (.int p1), .val (.int nn), .val (.int w1), .val (.int gp), .val (.int pl)] [])) _
        refine XS.aloadN X139.here hx rfl (hb hby d14_22) rfl rfl ?_
        show Steps p.tables e below (T139.setTop (mkF m 23 #[.val (.ref a1), .val (.int p1), .val (.int nn), .val (.int w1), .val (.int gp), .val (.int pl)] [(.ref a1)])) _
        refine XS.iload X139.here hx rfl (hb hby d14_23) rfl ?_
        show Steps p.tables e below (T139.setTop (mkF m 25 #[.val (.ref a1), .val (.int p1), .val (.int nn), .val (.int w1), .val (.int gp), .val (.int pl)] [(.int pl), (.ref a1)])) _
        exact k
      obtain ⟨cq146, kq146, qa146, qb146, qc146⟩ := isOf hZ e139 f140
      obtain ⟨_, _, ⟨T146, L146, k146, n146⟩, -, X146, ⟨Lc146, hQ146, l146, y146, z146⟩, st146⟩ := X139.interfaceBack hx (xi := (⟨"com/example/utu/utu/OpenAddressing$Places", "isFree", "(I)Z"⟩ : MethodName)) (y := (⟨"com/example/utu/utu/SlotNumbers$TablePlaces", "isFree", "(I)Z"⟩ : MethodName)) hown (mvT hZ (hw _ (List.mem_of_getElem? (i := 82) rfl))) (mvT hZ (hw _ (List.mem_of_getElem? (i := 83) rfl))) (mvT hZ (hw _ (List.mem_of_getElem? (i := 84) rfl))) (mvT hZ (hw _ (List.mem_of_getElem? (i := 85) rfl))) (mvT hZ (hw _ (List.mem_of_getElem? (i := 86) rfl))) (mvT hZ (hw _ (List.mem_of_getElem? (i := 87) rfl))) (mvT hZ (hw _ (List.mem_of_getElem? (i := 88) rfl))) (mvT hZ (hw _ (List.mem_of_getElem? (i := 77) rfl))) (by decide) (backOf (W := 0) (rm17 l Z a0 hw [] a1 pl tb nn g h139 n0 Z139  f141 f142 hpl) hZ (hw _ (List.mem_of_getElem? (i := 89) rfl)) (hw _ (List.mem_of_getElem? (i := 55) rfl)) (by decide) (by decide)) qa146 qb146 qc146 (g := (mkF m 25 #[.val (.ref a1), .val (.int p1), .val (.int nn), .val (.int w1), .val (.int gp), .val (.int pl)] [(.int pl), (.ref a1)])) rfl (by rw [hml]; rfl) (Steps.refl _) (argsL := [(.int pl)]) (rest := []) (lenOf pd_17 rfl) rfl (by show 2 * 0 + _ ≤ _; exact Nat.le_of_eq rfl) (hb hby d14_25) (fun _ _ => ⟨rfl, e139, (by dsimp only [Pt.cells]; decide), (by dsimp only [Pt.slots]; decide)⟩)
      dsimp only [Pt.U, Pt.locs, Pt.cells, Pt.slots] at X146 l146 y146 z146 st146 hQ146
      subst l146 y146 z146
      obtain ⟨rfl, Nc146, hp146⟩ := hQ146
      have N146 := Fr.app N139 Nc146
      refine OwnWp.go st146 ?_
      have eh146 : T146.heap = h139 := hp146
      show OwnWp p e below s _ _ _ (T146.setTop (mkF m 30 #[.val (.ref a1), .val (.int p1), .val (.int nn), .val (.int w1), .val (.int gp), .val (.int pl)] [(.int (own_b (g pl.toInt)))]))
      by_cases c30_147 : (own_b (g pl.toInt)) = (0 : Int32)
      · refine OwnWp.step (U' := T146.setTop (mkF m 33 #[.val (.ref a1), .val (.int p1), .val (.int nn), .val (.int w1), .val (.int gp), .val (.int pl)] [])) (fun t k => ?_) ?_
        · show Steps p.tables e below (T146.setTop (mkF m 30 #[.val (.ref a1), .val (.int p1), .val (.int nn), .val (.int w1), .val (.int gp), .val (.int pl)] [(.int (own_b (g pl.toInt)))])) _
          refine XS.ifNo X146.here hx rfl (hb hby d14_30) rfl (XT.i0_ne_f c30_147) ?_
          exact k
        have hnz : g pl.toInt ≠ 0 := own_b0 c30_147
        refine OwnWp.step (U' := T146.setTop (mkF m 38 #[.val (.ref a1), .val (.int p1), .val (.int nn), .val (.int w1), .val (.int gp), .val (.int pl)] [(.int pl), (.ref a1), (.int pl)])) (fun t k => ?_) ?_
        · show Steps p.tables e below (T146.setTop (mkF m 33 #[.val (.ref a1), .val (.int p1), .val (.int nn), .val (.int w1), .val (.int gp), .val (.int pl)] [])) _
          refine XS.iload X146.here hx rfl (hb hby d14_33) rfl ?_
          show Steps p.tables e below (T146.setTop (mkF m 35 #[.val (.ref a1), .val (.int p1), .val (.int nn), .val (.int w1), .val (.int gp), .val (.int pl)] [(.int pl)])) _
          refine XS.aloadN X146.here hx rfl (hb hby d14_35) rfl rfl ?_
          show Steps p.tables e below (T146.setTop (mkF m 36 #[.val (.ref a1), .val (.int p1), .val (.int nn), .val (.int w1), .val (.int gp), .val (.int pl)] [(.ref a1), (.int pl)])) _
          refine XS.iload X146.here hx rfl (hb hby d14_36) rfl ?_
          show Steps p.tables e below (T146.setTop (mkF m 38 #[.val (.ref a1), .val (.int p1), .val (.int nn), .val (.int w1), .val (.int gp), .val (.int pl)] [(.int pl), (.ref a1), (.int pl)])) _
          exact k
        obtain ⟨cq148, kq148, qa148, qb148, qc148⟩ := isOf hZ eh146 f140
        obtain ⟨_, _, ⟨T148, L148, k148, n148⟩, -, X148, ⟨Lc148, hQ148, l148, y148, z148⟩, st148⟩ := X146.interfaceBack hx (xi := (⟨"com/example/utu/utu/OpenAddressing$Places", "homeOf", "(I)I"⟩ : MethodName)) (y := (⟨"com/example/utu/utu/SlotNumbers$TablePlaces", "homeOf", "(I)I"⟩ : MethodName)) hown (mvT hZ (hw _ (List.mem_of_getElem? (i := 116) rfl))) (mvT hZ (hw _ (List.mem_of_getElem? (i := 117) rfl))) (mvT hZ (hw _ (List.mem_of_getElem? (i := 118) rfl))) (mvT hZ (hw _ (List.mem_of_getElem? (i := 119) rfl))) (mvT hZ (hw _ (List.mem_of_getElem? (i := 120) rfl))) (mvT hZ (hw _ (List.mem_of_getElem? (i := 121) rfl))) (mvT hZ (hw _ (List.mem_of_getElem? (i := 122) rfl))) (mvT hZ (hw _ (List.mem_of_getElem? (i := 77) rfl))) (by decide) (backOf (W := 1) (rm25 l Z a0 hw [] a1 pl tb nn g h139 n0 Z139  f141 f142 hpl hn) hZ (hw _ (List.mem_of_getElem? (i := 123) rfl)) (hw _ (List.mem_of_getElem? (i := 55) rfl)) (by decide) (by decide)) qa148 qb148 qc148 (g := (mkF m 38 #[.val (.ref a1), .val (.int p1), .val (.int nn), .val (.int w1), .val (.int gp), .val (.int pl)] [(.int pl), (.ref a1), (.int pl)])) rfl (by rw [hml]; rfl) (Steps.refl _) (argsL := [(.int pl)]) (rest := [(.int pl)]) (lenOf pd_25 rfl) rfl (by show 2 * 0 + _ ≤ _; exact Nat.le_of_eq rfl) (hb hby d14_38) (fun _ _ => ⟨rfl, eh146, (by dsimp only [Pt.cells]; decide), (by dsimp only [Pt.slots]; decide)⟩)
        dsimp only [Pt.U, Pt.locs, Pt.cells, Pt.slots] at X148 l148 y148 z148 st148 hQ148
        subst l148 y148 z148
        obtain ⟨rfl, Nc148, hp148⟩ := hQ148
        have N148 := Fr.app N146 Nc148
        refine OwnWp.go st148 ?_
        have eh148 : T148.heap = h139 := hp148
        show OwnWp p e below s _ _ _ (T148.setTop (mkF m 43 #[.val (.ref a1), .val (.int p1), .val (.int nn), .val (.int w1), .val (.int gp), .val (.int pl)] [(.int (own_oh (g pl.toInt) nn)), (.int pl)]))
        refine OwnWp.step (U' := T148.setTop (mkF m 53 #[.val (.ref a1), .val (.int p1), .val (.int nn), .val (.int w1), .val (.int gp), .val (.int pl)] [(.int ((pl - gp) &&& w1)), (.int ((pl - (own_oh (g pl.toInt) nn)) &&& w1))])) (fun t k => ?_) ?_
        · show Steps p.tables e below (T148.setTop (mkF m 43 #[.val (.ref a1), .val (.int p1), .val (.int nn), .val (.int w1), .val (.int gp), .val (.int pl)] [(.int (own_oh (g pl.toInt) nn)), (.int pl)])) _
          refine XS.isub X148.here hx rfl (hb hby d14_43) rfl ?_
          show Steps p.tables e below (T148.setTop (mkF m 44 #[.val (.ref a1), .val (.int p1), .val (.int nn), .val (.int w1), .val (.int gp), .val (.int pl)] [(.int (pl - (own_oh (g pl.toInt) nn)))])) _
          refine XS.iloadN X148.here hx rfl (hb hby d14_44) rfl ?_
          show Steps p.tables e below (T148.setTop (mkF m 45 #[.val (.ref a1), .val (.int p1), .val (.int nn), .val (.int w1), .val (.int gp), .val (.int pl)] [(.int w1), (.int (pl - (own_oh (g pl.toInt) nn)))])) _
          refine XS.iand X148.here hx rfl (hb hby d14_45) rfl ?_
          show Steps p.tables e below (T148.setTop (mkF m 46 #[.val (.ref a1), .val (.int p1), .val (.int nn), .val (.int w1), .val (.int gp), .val (.int pl)] [(.int ((pl - (own_oh (g pl.toInt) nn)) &&& w1))])) _
          refine XS.iload X148.here hx rfl (hb hby d14_46) rfl ?_
          show Steps p.tables e below (T148.setTop (mkF m 48 #[.val (.ref a1), .val (.int p1), .val (.int nn), .val (.int w1), .val (.int gp), .val (.int pl)] [(.int pl), (.int ((pl - (own_oh (g pl.toInt) nn)) &&& w1))])) _
          refine XS.iload X148.here hx rfl (hb hby d14_48) rfl ?_
          show Steps p.tables e below (T148.setTop (mkF m 50 #[.val (.ref a1), .val (.int p1), .val (.int nn), .val (.int w1), .val (.int gp), .val (.int pl)] [(.int gp), (.int pl), (.int ((pl - (own_oh (g pl.toInt) nn)) &&& w1))])) _
          refine XS.isub X148.here hx rfl (hb hby d14_50) rfl ?_
          show Steps p.tables e below (T148.setTop (mkF m 51 #[.val (.ref a1), .val (.int p1), .val (.int nn), .val (.int w1), .val (.int gp), .val (.int pl)] [(.int (pl - gp)), (.int ((pl - (own_oh (g pl.toInt) nn)) &&& w1))])) _
          refine XS.iloadN X148.here hx rfl (hb hby d14_51) rfl ?_
          show Steps p.tables e below (T148.setTop (mkF m 52 #[.val (.ref a1), .val (.int p1), .val (.int nn), .val (.int w1), .val (.int gp), .val (.int pl)] [(.int w1), (.int (pl - gp)), (.int ((pl - (own_oh (g pl.toInt) nn)) &&& w1))])) _
          refine XS.iand X148.here hx rfl (hb hby d14_52) rfl ?_
          show Steps p.tables e below (T148.setTop (mkF m 53 #[.val (.ref a1), .val (.int p1), .val (.int nn), .val (.int w1), .val (.int gp), .val (.int pl)] [(.int ((pl - gp) &&& w1)), (.int ((pl - (own_oh (g pl.toInt) nn)) &&& w1))])) _
          exact k
        by_cases c53_149 : ((pl - (own_oh (g pl.toInt) nn)) &&& w1) < ((pl - gp) &&& w1)
        · refine OwnWp.step (U' := T148.setTop (mkF m 70 #[.val (.ref a1), .val (.int p1), .val (.int nn), .val (.int w1), .val (.int gp), .val (.int pl)] [])) (fun t k => ?_) ?_
          · show Steps p.tables e below (T148.setTop (mkF m 53 #[.val (.ref a1), .val (.int p1), .val (.int nn), .val (.int w1), .val (.int gp), .val (.int pl)] [(.int ((pl - gp) &&& w1)), (.int ((pl - (own_oh (g pl.toInt) nn)) &&& w1))])) _
            refine XS.icmpYes X148.here hx rfl (pc0 := 53) (pc' := 70) rfl (hb hby d14_53) rfl (XT.ii_lt_t c53_149) (by decide) (by decide) ?_
            exact k
          refine OwnWp.step (U' := T148.setTop (mkF m 73 #[.val (.ref a1), .val (.int p1), .val (.int nn), .val (.int w1), .val (.int gp), .val (.int pl)] [(.int nn), (.int pl)])) (fun t k => ?_) ?_
          · show Steps p.tables e below (T148.setTop (mkF m 70 #[.val (.ref a1), .val (.int p1), .val (.int nn), .val (.int w1), .val (.int gp), .val (.int pl)] [])) _
            refine XS.iload X148.here hx rfl (hb hby d14_70) rfl ?_
            show Steps p.tables e below (T148.setTop (mkF m 72 #[.val (.ref a1), .val (.int p1), .val (.int nn), .val (.int w1), .val (.int gp), .val (.int pl)] [(.int pl)])) _
            refine XS.iloadN X148.here hx rfl (hb hby d14_72) rfl ?_
            show Steps p.tables e below (T148.setTop (mkF m 73 #[.val (.ref a1), .val (.int p1), .val (.int nn), .val (.int w1), .val (.int gp), .val (.int pl)] [(.int nn), (.int pl)])) _
            exact k
          show OwnWp p e below s _ _ _ (T148.setTop (mkF m 73 #[.val (.ref a1), .val (.int p1), .val (.int nn), .val (.int w1), .val (.int gp), .val (.int pl)] [(.int nn), (.int pl)]))
          obtain ⟨_, _, ⟨T150, L150, k150, n150⟩, -, X150, ⟨Lc150, hQ150, l150, y150, z150⟩, st150⟩ := Jvm.LawKit.callS X148 hx (y := (⟨"com/example/utu/utu/OpenAddressing", "next", "(II)I"⟩ : MethodName)) hown (mvT hZ (hw _ (List.mem_of_getElem? (i := 79) rfl))) (mvT hZ (hw _ (List.mem_of_getElem? (i := 80) rfl))) (mvT hZ (hw _ (List.mem_of_getElem? (i := 31) rfl))) (mvT hZ (hw _ (List.mem_of_getElem? (i := 81) rfl))) (by decide) (backOf (W := 0) (rm16 l Z a0 hw [] pl nn h139 n0 Z139 ) hZ (hw _ (List.mem_of_getElem? (i := 81) rfl)) (hw _ (List.mem_of_getElem? (i := 31) rfl)) (by decide) (by decide)) (g := (mkF m 73 #[.val (.ref a1), .val (.int p1), .val (.int nn), .val (.int w1), .val (.int gp), .val (.int pl)] [(.int nn), (.int pl)])) rfl (by rw [hml]; rfl) (argsL := [(.int pl), (.int nn)]) (rest := []) (lenOf pd_16 rfl) rfl (by show 2 * 0 + _ ≤ _; exact Nat.le_of_eq rfl) (hb hby d14_73) (fun _ _ => ⟨rfl, eh148, (by dsimp only [Pt.cells]; decide), (by dsimp only [Pt.slots]; decide)⟩)
          dsimp only [Pt.U, Pt.locs, Pt.cells, Pt.slots] at X150 l150 y150 z150 st150 hQ150
          subst l150 y150 z150
          obtain ⟨rfl, Nc150, hp150⟩ := hQ150
          have N150 := Fr.app N148 Nc150
          refine OwnWp.step st150 ?_
          have eh150 : T150.heap = h139 := hp150
          show OwnWp p e below s _ _ _ (T150.setTop (mkF m 76 #[.val (.ref a1), .val (.int p1), .val (.int nn), .val (.int w1), .val (.int gp), .val (.int pl)] [(.int (own_nxt pl nn))]))
          obtain ⟨w3, qw3⟩ : ∃ z : Int32, z = (own_nxt pl nn) := ⟨_, rfl⟩
          refine OwnWp.step (U' := T150.setTop (mkF m 78 #[.val (.ref a1), .val (.int p1), .val (.int nn), .val (.int w1), .val (.int gp), .val (.int w3)] [])) (fun t k => ?_) ?_
          · show Steps p.tables e below (T150.setTop (mkF m 76 #[.val (.ref a1), .val (.int p1), .val (.int nn), .val (.int w1), .val (.int gp), .val (.int pl)] [(.int (own_nxt pl nn))])) _
            refine XS.istore X150.here hx rfl (hb hby d14_76) rfl (l' := #[.val (.ref a1), .val (.int p1), .val (.int nn), .val (.int w1), .val (.int gp), .val (.int (own_nxt pl nn))]) rfl ?_
            show Steps p.tables e below (T150.setTop (mkF m 78 #[.val (.ref a1), .val (.int p1), .val (.int nn), .val (.int w1), .val (.int gp), .val (.int (own_nxt pl nn))] [])) _
            rw [qw3] at k
            exact k
          refine OwnWp.step (U' := T150.setTop (mkF m 22 #[.val (.ref a1), .val (.int p1), .val (.int nn), .val (.int w1), .val (.int gp), .val (.int w3)] [])) (fun t k => ?_) ?_
          · show Steps p.tables e below (T150.setTop (mkF m 78 #[.val (.ref a1), .val (.int p1), .val (.int nn), .val (.int w1), .val (.int gp), .val (.int w3)] [])) _
            refine XS.goto X150.here hx rfl (pc0 := 78) (pc' := 22) rfl (hb hby d14_78) (by decide) (by decide) ?_
            show Steps p.tables e below (T150.setTop (mkF m 22 #[.val (.ref a1), .val (.int p1), .val (.int nn), .val (.int w1), .val (.int gp), .val (.int w3)] [])) _
            exact k
          obtain ⟨t1, t2⟩ := own_gapn hn hpl hk w3 qw3
          exact ih  T150 h139 _ gp w3 g X150 eh150 N150 Z139 f140 f141 f142 K143 hgp hg0 t1 hzg t2 hS
        · refine OwnWp.step (U' := T148.setTop (mkF m 56 #[.val (.ref a1), .val (.int p1), .val (.int nn), .val (.int w1), .val (.int gp), .val (.int pl)] [])) (fun t k => ?_) ?_
          · show Steps p.tables e below (T148.setTop (mkF m 53 #[.val (.ref a1), .val (.int p1), .val (.int nn), .val (.int w1), .val (.int gp), .val (.int pl)] [(.int ((pl - gp) &&& w1)), (.int ((pl - (own_oh (g pl.toInt) nn)) &&& w1))])) _
            refine XS.icmpNo X148.here hx rfl (hb hby d14_53) rfl (XT.ii_lt_f c53_149) ?_
            exact k
          refine OwnWp.step (U' := T148.setTop (mkF m 61 #[.val (.ref a1), .val (.int p1), .val (.int nn), .val (.int w1), .val (.int gp), .val (.int pl)] [(.int gp), (.int pl), (.ref a1)])) (fun t k => ?_) ?_
          · show Steps p.tables e below (T148.setTop (mkF m 56 #[.val (.ref a1), .val (.int p1), .val (.int nn), .val (.int w1), .val (.int gp), .val (.int pl)] [])) _
            refine XS.aloadN X148.here hx rfl (hb hby d14_56) rfl rfl ?_
            show Steps p.tables e below (T148.setTop (mkF m 57 #[.val (.ref a1), .val (.int p1), .val (.int nn), .val (.int w1), .val (.int gp), .val (.int pl)] [(.ref a1)])) _
            refine XS.iload X148.here hx rfl (hb hby d14_57) rfl ?_
            show Steps p.tables e below (T148.setTop (mkF m 59 #[.val (.ref a1), .val (.int p1), .val (.int nn), .val (.int w1), .val (.int gp), .val (.int pl)] [(.int pl), (.ref a1)])) _
            refine XS.iload X148.here hx rfl (hb hby d14_59) rfl ?_
            show Steps p.tables e below (T148.setTop (mkF m 61 #[.val (.ref a1), .val (.int p1), .val (.int nn), .val (.int w1), .val (.int gp), .val (.int pl)] [(.int gp), (.int pl), (.ref a1)])) _
            exact k
          obtain ⟨cq151, kq151, qa151, qb151, qc151⟩ := isOf hZ eh148 f140
          obtain ⟨_, _, ⟨T151, L151, k151, n151⟩, -, X151, ⟨Lc151, hQ151, l151, y151, z151⟩, st151⟩ := X148.interfaceBack hx (xi := (⟨"com/example/utu/utu/OpenAddressing$Places", "move", "(II)V"⟩ : MethodName)) (y := (⟨"com/example/utu/utu/SlotNumbers$TablePlaces", "move", "(II)V"⟩ : MethodName)) hown (mvT hZ (hw _ (List.mem_of_getElem? (i := 125) rfl))) (mvT hZ (hw _ (List.mem_of_getElem? (i := 126) rfl))) (mvT hZ (hw _ (List.mem_of_getElem? (i := 127) rfl))) (mvT hZ (hw _ (List.mem_of_getElem? (i := 128) rfl))) (mvT hZ (hw _ (List.mem_of_getElem? (i := 129) rfl))) (mvT hZ (hw _ (List.mem_of_getElem? (i := 130) rfl))) (mvT hZ (hw _ (List.mem_of_getElem? (i := 131) rfl))) (mvT hZ (hw _ (List.mem_of_getElem? (i := 77) rfl))) (by decide) (backOf (W := 0) (rm26 l Z a0 hw [] a1 pl gp tb nn g h139 n0 Z139 g1 ne0 f141 f142 hpl hgp) hZ (hw _ (List.mem_of_getElem? (i := 132) rfl)) (hw _ (List.mem_of_getElem? (i := 55) rfl)) (by decide) (by decide)) qa151 qb151 qc151 (g := (mkF m 61 #[.val (.ref a1), .val (.int p1), .val (.int nn), .val (.int w1), .val (.int gp), .val (.int pl)] [(.int gp), (.int pl), (.ref a1)])) rfl (by rw [hml]; rfl) (Steps.refl _) (argsL := [(.int pl), (.int gp)]) (rest := []) (lenOf pd_26 rfl) rfl (by show 2 * 0 + _ ≤ _; exact Nat.le_of_eq rfl) (hb hby d14_61) (fun _ _ => ⟨rfl, eh148, (by dsimp only [Pt.cells]; decide), (by dsimp only [Pt.slots]; decide)⟩)
          dsimp only [Pt.U, Pt.locs, Pt.cells, Pt.slots] at X151 l151 y151 z151 st151 hQ151
          subst l151 y151 z151
          obtain ⟨rfl, Nc151, Kc151, am151⟩ := hQ151
          have N151 := Fr.app N148 Nc151
          refine OwnWp.go st151 ?_
          have Z151 : n0 ≤ T151.heap.size := Nat.le_trans Z139 Kc151.1
          have f152 := Exa.keep f140 Kc151
          have f153 := Fld.keep f141 Kc151 (ninS ne0 nin0)
          have K155 := Keep.trans K143 Kc151 (allS (Or.inl (List.mem_of_getElem? (i := 0) rfl)) all0)
          show OwnWp p e below s _ _ _ (T151.setTop (mkF m 66 #[.val (.ref a1), .val (.int p1), .val (.int nn), .val (.int w1), .val (.int gp), .val (.int pl)] []))
          refine OwnWp.step (U' := T151.setTop (mkF m 73 #[.val (.ref a1), .val (.int p1), .val (.int nn), .val (.int w1), .val (.int pl), .val (.int pl)] [(.int nn), (.int pl)])) (fun t k => ?_) ?_
          · show Steps p.tables e below (T151.setTop (mkF m 66 #[.val (.ref a1), .val (.int p1), .val (.int nn), .val (.int w1), .val (.int gp), .val (.int pl)] [])) _
            refine XS.iload X151.here hx rfl (hb hby d14_66) rfl ?_
            show Steps p.tables e below (T151.setTop (mkF m 68 #[.val (.ref a1), .val (.int p1), .val (.int nn), .val (.int w1), .val (.int gp), .val (.int pl)] [(.int pl)])) _
            refine XS.istore X151.here hx rfl (hb hby d14_68) rfl (l' := #[.val (.ref a1), .val (.int p1), .val (.int nn), .val (.int w1), .val (.int pl), .val (.int pl)]) rfl ?_
            show Steps p.tables e below (T151.setTop (mkF m 70 #[.val (.ref a1), .val (.int p1), .val (.int nn), .val (.int w1), .val (.int pl), .val (.int pl)] [])) _
            refine XS.iload X151.here hx rfl (hb hby d14_70) rfl ?_
            show Steps p.tables e below (T151.setTop (mkF m 72 #[.val (.ref a1), .val (.int p1), .val (.int nn), .val (.int w1), .val (.int pl), .val (.int pl)] [(.int pl)])) _
            refine XS.iloadN X151.here hx rfl (hb hby d14_72) rfl ?_
            show Steps p.tables e below (T151.setTop (mkF m 73 #[.val (.ref a1), .val (.int p1), .val (.int nn), .val (.int w1), .val (.int pl), .val (.int pl)] [(.int nn), (.int pl)])) _
            exact k
          show OwnWp p e below s _ _ _ (T151.setTop (mkF m 73 #[.val (.ref a1), .val (.int p1), .val (.int nn), .val (.int w1), .val (.int pl), .val (.int pl)] [(.int nn), (.int pl)]))
          obtain ⟨_, _, ⟨T156, L156, k156, n156⟩, -, X156, ⟨Lc156, hQ156, l156, y156, z156⟩, st156⟩ := Jvm.LawKit.callS X151 hx (y := (⟨"com/example/utu/utu/OpenAddressing", "next", "(II)I"⟩ : MethodName)) hown (mvT hZ (hw _ (List.mem_of_getElem? (i := 79) rfl))) (mvT hZ (hw _ (List.mem_of_getElem? (i := 80) rfl))) (mvT hZ (hw _ (List.mem_of_getElem? (i := 31) rfl))) (mvT hZ (hw _ (List.mem_of_getElem? (i := 81) rfl))) (by decide) (backOf (W := 0) (rm16 l Z a0 hw [] pl nn T151.heap n0 Z151 ) hZ (hw _ (List.mem_of_getElem? (i := 81) rfl)) (hw _ (List.mem_of_getElem? (i := 31) rfl)) (by decide) (by decide)) (g := (mkF m 73 #[.val (.ref a1), .val (.int p1), .val (.int nn), .val (.int w1), .val (.int pl), .val (.int pl)] [(.int nn), (.int pl)])) rfl (by rw [hml]; rfl) (argsL := [(.int pl), (.int nn)]) (rest := []) (lenOf pd_16 rfl) rfl (by show 2 * 0 + _ ≤ _; exact Nat.le_of_eq rfl) (hb hby d14_73) (fun _ _ => ⟨rfl, (rfl : T151.heap = T151.heap), (by dsimp only [Pt.cells]; decide), (by dsimp only [Pt.slots]; decide)⟩)
          dsimp only [Pt.U, Pt.locs, Pt.cells, Pt.slots] at X156 l156 y156 z156 st156 hQ156
          subst l156 y156 z156
          obtain ⟨rfl, Nc156, hp156⟩ := hQ156
          have N156 := Fr.app N151 Nc156
          refine OwnWp.step st156 ?_
          have eh156 : T156.heap = T151.heap := hp156
          show OwnWp p e below s _ _ _ (T156.setTop (mkF m 76 #[.val (.ref a1), .val (.int p1), .val (.int nn), .val (.int w1), .val (.int pl), .val (.int pl)] [(.int (own_nxt pl nn))]))
          obtain ⟨w3, qw3⟩ : ∃ z : Int32, z = (own_nxt pl nn) := ⟨_, rfl⟩
          refine OwnWp.step (U' := T156.setTop (mkF m 78 #[.val (.ref a1), .val (.int p1), .val (.int nn), .val (.int w1), .val (.int pl), .val (.int w3)] [])) (fun t k => ?_) ?_
          · show Steps p.tables e below (T156.setTop (mkF m 76 #[.val (.ref a1), .val (.int p1), .val (.int nn), .val (.int w1), .val (.int pl), .val (.int pl)] [(.int (own_nxt pl nn))])) _
            refine XS.istore X156.here hx rfl (hb hby d14_76) rfl (l' := #[.val (.ref a1), .val (.int p1), .val (.int nn), .val (.int w1), .val (.int pl), .val (.int (own_nxt pl nn))]) rfl ?_
            show Steps p.tables e below (T156.setTop (mkF m 78 #[.val (.ref a1), .val (.int p1), .val (.int nn), .val (.int w1), .val (.int pl), .val (.int (own_nxt pl nn))] [])) _
            rw [qw3] at k
            exact k
          refine OwnWp.step (U' := T156.setTop (mkF m 22 #[.val (.ref a1), .val (.int p1), .val (.int nn), .val (.int w1), .val (.int pl), .val (.int w3)] [])) (fun t k => ?_) ?_
          · show Steps p.tables e below (T156.setTop (mkF m 78 #[.val (.ref a1), .val (.int p1), .val (.int nn), .val (.int w1), .val (.int pl), .val (.int w3)] [])) _
            refine XS.goto X156.here hx rfl (pc0 := 78) (pc' := 22) rfl (hb hby d14_78) (by decide) (by decide) ?_
            show Steps p.tables e below (T156.setTop (mkF m 22 #[.val (.ref a1), .val (.int p1), .val (.int nn), .val (.int w1), .val (.int pl), .val (.int w3)] [])) _
            exact k
          obtain ⟨t1, t2⟩ := own_gapn hn hpl hk w3 qw3
          obtain ⟨t3, t4, t5⟩ := own_gapm hn hgp hg0 hpl hnz hzg hS
          exact ih  T156 T151.heap _ pl w3 (ownUpd (ownUpd g gp.toInt (g pl.toInt)) pl.toInt (0 : Int32)) X156 eh156 N156 Z151 f152 f153 am151 K155 hpl t3 t1 t4 t2 t5
      · refine OwnWp.step (U' := T146.setTop (mkF m 81 #[.val (.ref a1), .val (.int p1), .val (.int nn), .val (.int w1), .val (.int gp), .val (.int pl)] [])) (fun t k => ?_) ?_
        · show Steps p.tables e below (T146.setTop (mkF m 30 #[.val (.ref a1), .val (.int p1), .val (.int nn), .val (.int w1), .val (.int gp), .val (.int pl)] [(.int (own_b (g pl.toInt)))])) _
          refine XS.ifYes X146.here hx rfl (pc0 := 30) (pc' := 81) rfl (hb hby d14_30) rfl (XT.i0_ne_t c30_147) (by decide) (by decide) ?_
          exact k
        refine OwnWp.retV X146 hx hlk Bd.returns (hb hby d14_81) (by decide) (by decide) ?_
        rw [eh146]
        exact ⟨rfl, N146, K143, g, f142, hS⟩
  obtain ⟨kz, t1, t2⟩ := own_gaps hn hp z1 z2 w2 qw2
  exact hloop kz T138 h0 _ p1 w2 f X138 eh138 N138 Z0 E0 F0 A0 K0 hp hf0 t1 ⟨z4, z3⟩ t2 (own_same_refl hI)
theorem own_invfree2 {nn : Int32} {f : Int → Int32} {s : Int32} (hI : own_inv nn f s) : ∃ z : Int, 0 ≤ z ∧ z < nn.toInt ∧ f z = 0 := by
  obtain ⟨h1, h2, h3, h4⟩ := hI
  have := own_len_pos h1
  obtain ⟨i, i1, i2, i3⟩ := own_free (f := f) nn.toInt.toNat (by omega)
  exact ⟨i, i1, by omega, i3⟩
def own_tfin (nn : Int32) (f : Int → Int32) (s : Int32) : Prop := own_len nn.toInt ∧ own_inj nn.toInt f ∧ s.toInt = ((own_cnt f nn.toInt.toNat : Nat) : Int) ∧ 2 * s.toInt ≤ nn.toInt
theorem own_finI {nn : Int32} {f : Int → Int32} {s : Int32} (hI : own_inv nn f s) : own_tfin nn f s := ⟨hI.1, hI.2.1.1, hI.2.2⟩
theorem own_rem_no {nn : Int32} {f : Int → Int32} {s x : Int32} {d : Int} (hI : own_inv nn f s) (hx : x ≠ 0) (hd : own_found nn.toInt f x d) (c : f d = 0) (y : Int32) (hy : y ≠ 0) : own_mem nn.toInt f y ↔ (own_mem nn.toInt f y ∧ y ≠ x) :=
  ⟨fun h => ⟨h, fun e => own_not_of hI.2.1 hx hd c (e ▸ h)⟩, fun h => h.1⟩
theorem own_rem {nn : Int32} {f : Int → Int32} {s x d : Int32} (hI : own_inv nn f s) (hx : x ≠ 0) (hd : own_found nn.toInt f x d.toInt) (c : ¬ f d.toInt = 0) :
    ownUpd f d.toInt (0 : Int32) d.toInt = 0 ∧ own_inj nn.toInt (ownUpd f d.toInt (0 : Int32)) ∧ (∃ z : Int, 0 ≤ z ∧ z < nn.toInt ∧ z ≠ d.toInt ∧ ownUpd f d.toInt (0 : Int32) z = 0) ∧ own_tfin nn (ownUpd f d.toInt (0 : Int32)) (s - (1 : Int32)) ∧ ∀ y : Int32, y ≠ 0 → (own_mem nn.toInt (ownUpd f d.toInt (0 : Int32)) y ↔ (own_mem nn.toInt f y ∧ y ≠ x)) := by
  have rr := own_found_rng hI.1 hd
  have hfx : f d.toInt = x := hd.1.resolve_left c
  have hp := own_len_pos hI.1
  obtain ⟨z, z1, z2, z3⟩ := own_invfree2 hI
  obtain ⟨h1, h2, h3, h4⟩ := hI
  have hz : z ≠ d.toInt := fun e => c (by rw [← e]; exact z3)
  have cd := own_cnt_del (f := f) c rr.1 nn.toInt.toNat (by omega)
  have a := c_isub s 1
  rw [show (1 : Int32).toInt = 1 from rfl] at a
  have b := rng32 (s - 1)
  refine ⟨ownUpd_same _ _ _, own_del_inj h2.1, ⟨z, z1, z2, hz, by rw [ownUpd_ne _ _ _ hz]; exact z3⟩, ⟨h1, own_del_inj h2.1, ?_, by omega⟩, fun y hy => own_del_mem rr h2.1 hfx hx hy⟩
  omega
theorem own_finS {nn : Int32} {f g : Int → Int32} {s : Int32} (h : own_tfin nn f s) (hS : own_same nn.toInt f g) : own_tfin nn g s := ⟨h.1, hS.1, by rw [hS.2.2]; exact h.2.2.1, h.2.2.2⟩
theorem own_fin_size {nn : Int32} {f : Int → Int32} {s : Int32} (h : own_tfin nn f s) : 0 ≤ s.toInt ∧ ¬ s < 0 ∧ s.toNatClampNeg ≤ 4 := by
  obtain ⟨h1, h2, h3, h4⟩ := h
  have hp := own_len_pos h1
  refine ⟨by omega, by rw [Int32.lt_iff_toInt_lt, Int32.toInt_zero]; omega, ?_⟩
  show s.toInt.toNat ≤ 4
  omega
theorem own_cnt_mono (f : Int → Int32) : ∀ (k j : Nat), own_cnt f k ≤ own_cnt f (k + j)
  | k, 0 => Nat.le_refl _
  | k, j + 1 => by
    show _ ≤ own_cnt f (k + j) + _
    have := own_cnt_mono f k j
    omega
theorem own_cnt_succ {f : Int → Int32} {i : Int} (h0 : 0 ≤ i) : own_cnt f (i + 1).toNat = own_cnt f i.toNat + (if f i = 0 then 0 else 1) := by
  rw [show (i + 1).toNat = i.toNat + 1 from by omega]
  show own_cnt f i.toNat + (if f (i.toNat : Int) = 0 then 0 else 1) = _
  rw [show ((i.toNat : Nat) : Int) = i from by omega]
theorem own_inci {nn i i2 : Int32} {k : Nat} (hn : own_len nn.toInt) (hi : i.toInt + ((k + 1 : Nat) : Int) = nn.toInt) (hi0 : 0 ≤ i.toInt) (q2 : i2 = i + (1 : Int32)) : i2.toInt = i.toInt + 1 := by
  have hp := own_len_pos hn
  have a := c_iadd i 1
  rw [← q2, show (1 : Int32).toInt = 1 from rfl] at a
  have b := rng32 i2
  omega
theorem own_ta0 {nn : Int32} {f ar : Int → Int32} {s ct i : Int32} {k : Nat} (hI : own_tfin nn f s) (hi : i.toInt + ((k + 1 : Nat) : Int) = nn.toInt) (hi0 : 0 ≤ i.toInt) (hc : ct.toInt = ((own_cnt f i.toInt.toNat : Nat) : Int)) (hA : own_arr f ar i.toInt ct.toInt) (i2 : Int32) (hz : f i.toInt = 0) (q2 : i2 = i + (1 : Int32)) :
    i2.toInt + (k : Int) = nn.toInt ∧ 0 ≤ i2.toInt ∧ ct.toInt = ((own_cnt f i2.toInt.toNat : Nat) : Int) ∧ own_arr f ar i2.toInt ct.toInt := by
  have e := own_inci hI.1 hi hi0 q2
  refine ⟨by omega, by omega, ?_, by rw [e]; exact own_arr_skip hA hz⟩
  rw [e, own_cnt_succ hi0, if_pos hz]; exact hc
theorem own_tain {nn : Int32} {f : Int → Int32} {s ct i : Int32} {k : Nat} (hI : own_tfin nn f s) (hi : i.toInt + ((k + 1 : Nat) : Int) = nn.toInt) (hi0 : 0 ≤ i.toInt) (hc : ct.toInt = ((own_cnt f i.toInt.toNat : Nat) : Int)) (hz : f i.toInt ≠ 0) : 0 ≤ ct.toInt ∧ ct.toInt < s.toInt := by
  have a := own_cnt_succ (f := f) hi0
  rw [if_neg hz] at a
  have b := own_cnt_mono f (i.toInt + 1).toNat (nn.toInt.toNat - (i.toInt + 1).toNat)
  rw [show (i.toInt + 1).toNat + (nn.toInt.toNat - (i.toInt + 1).toNat) = nn.toInt.toNat from by omega] at b
  have c := hI.2.2.1
  omega
theorem own_ta1 {nn : Int32} {f ar : Int → Int32} {s ct i : Int32} {k : Nat} (hI : own_tfin nn f s) (hi : i.toInt + ((k + 1 : Nat) : Int) = nn.toInt) (hi0 : 0 ≤ i.toInt) (hc : ct.toInt = ((own_cnt f i.toInt.toNat : Nat) : Int)) (hA : own_arr f ar i.toInt ct.toInt) (i2 c2 : Int32) (hz : f i.toInt ≠ 0) (q2 : i2 = i + (1 : Int32)) (qc : c2 = ct + (1 : Int32)) :
    i2.toInt + (k : Int) = nn.toInt ∧ 0 ≤ i2.toInt ∧ c2.toInt = ((own_cnt f i2.toInt.toNat : Nat) : Int) ∧ own_arr f (ownUpd ar ct.toInt (f i.toInt)) i2.toInt c2.toInt := by
  have e := own_inci hI.1 hi hi0 q2
  have r := own_tain hI hi hi0 hc hz
  have hp := own_len_pos hI.1
  have h4 := hI.2.2.2
  have a := c_iadd ct 1
  rw [← qc, show (1 : Int32).toInt = 1 from rfl] at a
  have b := rng32 c2
  have ec : c2.toInt = ct.toInt + 1 := by omega
  refine ⟨by omega, by omega, ?_, by rw [e, ec]; exact own_arr_take hA hz hi0 r.1⟩
  rw [e, own_cnt_succ hi0, if_neg hz]; omega
theorem own_ta_start {nn : Int32} {f : Int → Int32} {s : Int32} (hI : own_tfin nn f s) : (0 : Int32).toInt + ((nn.toInt.toNat : Nat) : Int) = nn.toInt := by
  have hp := own_len_pos hI.1
  rw [show (0 : Int32).toInt = 0 from rfl]; omega
theorem own_arr_end {nn : Int32} {f ar : Int → Int32} {s ct i : Int32} (hI : own_tfin nn f s) (hi : i.toInt + ((0 : Nat) : Int) = nn.toInt) (hc : ct.toInt = ((own_cnt f i.toInt.toNat : Nat) : Int)) (hA : own_arr f ar i.toInt ct.toInt) : own_arr f ar nn.toInt s.toInt := by
  have e : i.toInt = nn.toInt := by omega
  rw [e] at hc hA
  rw [hI.2.2.1, ← hc]; exact hA

theorem d11_0 : decode prog_29_method_4_code 0 = .ok (.aload_n 0, 1) := by decide +kernel
theorem d11_1 : decode prog_29_method_4_code 1 = .ok (.getfield 9, 3) := by decide +kernel
theorem d11_4 : decode prog_29_method_4_code 4 = .ok (.iload_n 1, 1) := by decide +kernel
theorem d11_5 : decode prog_29_method_4_code 5 = .ok (.invokestatic 21, 3) := by decide +kernel
theorem d11_8 : decode prog_29_method_4_code 8 = .ok (.istore_n 2, 1) := by decide +kernel
theorem d11_9 : decode prog_29_method_4_code 9 = .ok (.aload_n 0, 1) := by decide +kernel
theorem d11_10 : decode prog_29_method_4_code 10 = .ok (.getfield 9, 3) := by decide +kernel
theorem d11_13 : decode prog_29_method_4_code 13 = .ok (.iload_n 2, 1) := by decide +kernel
theorem d11_14 : decode prog_29_method_4_code 14 = .ok (.iaload, 1) := by decide +kernel
theorem d11_15 : decode prog_29_method_4_code 15 = .ok (.ifCond .eq 35, 3) := by decide +kernel
theorem d11_18 : decode prog_29_method_4_code 18 = .ok (.aload_n 0, 1) := by decide +kernel
theorem d11_19 : decode prog_29_method_4_code 19 = .ok (.getfield 9, 3) := by decide +kernel
theorem d11_22 : decode prog_29_method_4_code 22 = .ok (.iload_n 2, 1) := by decide +kernel
theorem d11_23 : decode prog_29_method_4_code 23 = .ok (.iconst 0, 1) := by decide +kernel
theorem d11_24 : decode prog_29_method_4_code 24 = .ok (.iastore, 1) := by decide +kernel
theorem d11_25 : decode prog_29_method_4_code 25 = .ok (.aload_n 0, 1) := by decide +kernel
theorem d11_26 : decode prog_29_method_4_code 26 = .ok (.dup, 1) := by decide +kernel
theorem d11_27 : decode prog_29_method_4_code 27 = .ok (.getfield 17, 3) := by decide +kernel
theorem d11_30 : decode prog_29_method_4_code 30 = .ok (.iconst 1, 1) := by decide +kernel
theorem d11_31 : decode prog_29_method_4_code 31 = .ok (.isub, 1) := by decide +kernel
theorem d11_32 : decode prog_29_method_4_code 32 = .ok (.putfield 17, 3) := by decide +kernel
theorem d11_35 : decode prog_29_method_4_code 35 = .ok (.new 29, 3) := by decide +kernel
theorem d11_38 : decode prog_29_method_4_code 38 = .ok (.dup, 1) := by decide +kernel
theorem d11_39 : decode prog_29_method_4_code 39 = .ok (.aload_n 0, 1) := by decide +kernel
theorem d11_40 : decode prog_29_method_4_code 40 = .ok (.getfield 9, 3) := by decide +kernel
theorem d11_43 : decode prog_29_method_4_code 43 = .ok (.invokespecial 31, 3) := by decide +kernel
theorem d11_46 : decode prog_29_method_4_code 46 = .ok (.iload_n 2, 1) := by decide +kernel
theorem d11_47 : decode prog_29_method_4_code 47 = .ok (.invokestatic 34, 3) := by decide +kernel
theorem d11_50 : decode prog_29_method_4_code 50 = .ok (.return_, 1) := by decide +kernel
theorem pn_11 : plainFor (⟨"com/example/utu/utu/SlotNumbers", "remove", "(I)V"⟩ : MethodName) = true := plainFor_of_name (by first | (simp [plainName, overriddenIn]; done) | decide +kernel)
theorem pd_11 : parseMethodDescriptor "(I)V" = some ⟨[.int], none⟩ := by decide +kernel
theorem ef_11 (m : MethodId) (x0 : Addr) (x1 : Int32) : entryFrame m #[(.ref x0), (.int x1)] 3 = mkF m 0 #[.val (.ref x0), .val (.int x1), .unset] [] := by first | (simp [entryFrame, mkF, argsToLocals, Value.category, maxLocals]; done) | rfl
def Q11 (Z : State) (a1 : Addr) (p1 : Int32) (tb : Addr) (nn : Int32) (f : Int → Int32) (s0 : Int32) (h0 : Heap) (n0 : Nat) (v : Option Value) (h : Heap) (L : List Loc) : Prop := v = none ∧ Fr n0 L ∧ Keep h0 h [a1, tb] ∧ ∃ (f' : Int → Int32) (s' : Int32), Fld Z h a1 "com/example/utu/utu/SlotNumbers" "table" "[I" (.ref tb) ∧ Fld Z h a1 "com/example/utu/utu/SlotNumbers" "size" "I" (.int s') ∧ OwnA Z h tb .int nn (fun i => .int (f' i)) ∧ own_tfin nn f' s' ∧ ∀ y : Int32, y ≠ 0 → (own_mem nn.toInt f' y ↔ (own_mem nn.toInt f y ∧ y ≠ p1))
set_option maxRecDepth 65536 in
set_option maxHeartbeats 40000000 in
theorem rm11 (l : Launch) (Z : State) (a0 : Array Value) (hw : ∀ d ∈ tables_1, d.before a0 Z = true) (ws : List Jvm.Cond) (a1 : Addr) (p1 : Int32) (tb : Addr) (nn : Int32) (f : Int → Int32) (s0 : Int32) (h0 : Heap) (n0 : Nat) (Z0 : n0 ≤ h0.size) (g0 : n0 ≤ a1) (g1 : n0 ≤ tb) (ne0 : a1 ≠ tb) (E0 : Exa Z h0 a1 "com/example/utu/utu/SlotNumbers") (F0 : Fld Z h0 a1 "com/example/utu/utu/SlotNumbers" "table" "[I" (.ref tb)) (F1 : Fld Z h0 a1 "com/example/utu/utu/SlotNumbers" "size" "I" (.int s0)) (A0 : OwnA Z h0 tb .int nn (fun i => .int (f i))) (hI : own_inv nn f s0) (hx1 : p1 ≠ 0) :
    MetFree l (⟨"com/example/utu/utu/SlotNumbers", "remove", "(I)V"⟩ : MethodName) (head1 (Jvm.Cond.code (⟨"com/example/utu/utu/SlotNumbers", "remove", "(I)V"⟩ : MethodName) prog_29_method_4_code 3 none :: ws) ({ frames := 5, cells := 1, slots := 1, locals := 73 } : Room)) (fun a U => a = #[(.ref a1), (.int p1)] ∧ Z.Warmed39 U.vm ∧ U.heap = h0) (fun _ _ _ _ _ => True) (fun _ U oc U' => ∃ v L, oc = .returned v ∧ Q11 Z a1 p1 tb nn f s0 h0 n0 v U'.heap L ∧ FrameEnd U oc U' L ({ frames := 5, cells := 1, slots := 1, locals := 73 } : Room).cells ({ frames := 5, cells := 1, slots := 1, locals := 73 } : Room).slots) := by
  refine MetFree.of_bodySF pn_11 hisR ?_
  intro p e s m args below meth c s₁ Bd hml0 hP hK
  obtain ⟨rfl, hZ, hh⟩ := hP
  have hx := Bd.exec
  have hby := Bd.bytes
  have hlk := BodyLoose.notSynchronized Bd
  have hml : c.maxLocals = 3 := hml0
  have hown : s.vm.findClass "com/example/utu/utu/SlotNumbers" = some m.cls := findClass_of_methodNamed Bd.named
  have hnm := (name_of_methodNamed Bd.named Bd.method).1
  have X0 : Stand p l e ({ frames := 5, cells := 1, slots := 1, locals := 73 } : Room) s m #[(.ref a1), (.int p1)] below meth c s₁ [] 0 0 := Stand.of_body Bd
  have e0 : s₁.heap = h0 := by rw [← hh, Bd.state]; rfl
  have N0 := Fr.nil n0
  show OwnWp p e below s ({ frames := 5, cells := 1, slots := 1, locals := 73 } : Room).cells ({ frames := 5, cells := 1, slots := 1, locals := 73 } : Room).slots (Q11 Z a1 p1 tb nn f s0 h0 n0) (s₁.setTop (entryFrame m #[(.ref a1), (.int p1)] 3))
  refine OwnWp.cast (ef_11 m a1 p1) ?_
  show OwnWp p e below s _ _ _ (s₁.setTop (mkF m 0 #[.val (.ref a1), .val (.int p1), .unset] []))
  have K0 := Keep.refl h0 [a1, tb]
  refine OwnWp.step (U' := s₁.setTop (mkF m 1 #[.val (.ref a1), .val (.int p1), .unset] [(.ref a1)])) (fun t k => ?_) ?_
  · show Steps p.tables e below (s₁.setTop (mkF m 0 #[.val (.ref a1), .val (.int p1), .unset] [])) _
    refine XS.aloadN X0.here hx rfl (hb hby d11_0) rfl rfl ?_
    show Steps p.tables e below (s₁.setTop (mkF m 1 #[.val (.ref a1), .val (.int p1), .unset] [(.ref a1)])) _
    exact k
  obtain ⟨T157, X157, e157, st157⟩ := getF X0 hx hZ hown (host := "") (Or.inl (hw _ (List.mem_of_getElem? (i := 16) rfl))) Via.refl e0 F0 (g := (mkF m 1 #[.val (.ref a1), .val (.int p1), .unset] [(.ref a1)])) rfl rfl (hb hby d11_1)
  refine OwnWp.step st157 ?_
  show OwnWp p e below s _ _ _ (T157.setTop (mkF m 4 #[.val (.ref a1), .val (.int p1), .unset] [(.ref tb)]))
  refine OwnWp.step (U' := T157.setTop (mkF m 5 #[.val (.ref a1), .val (.int p1), .unset] [(.int p1), (.ref tb)])) (fun t k => ?_) ?_
  · show Steps p.tables e below (T157.setTop (mkF m 4 #[.val (.ref a1), .val (.int p1), .unset] [(.ref tb)])) _
    refine XS.iloadN X157.here hx rfl (hb hby d11_4) rfl ?_
    show Steps p.tables e below (T157.setTop (mkF m 5 #[.val (.ref a1), .val (.int p1), .unset] [(.int p1), (.ref tb)])) _
    exact k
  obtain ⟨_, _, ⟨T158, L158, k158, n158⟩, -, X158, ⟨Lc158, hQ158, l158, y158, z158⟩, st158⟩ := Jvm.LawKit.callS X157 hx (y := (⟨"com/example/utu/utu/SlotNumbers", "find", "([II)I"⟩ : MethodName)) hown (mvT hZ (hw _ (List.mem_of_getElem? (i := 23) rfl))) (mvT hZ (hw _ (List.mem_of_getElem? (i := 24) rfl))) (mvT hZ (hw _ (List.mem_of_getElem? (i := 9) rfl))) (mvT hZ (hw _ (List.mem_of_getElem? (i := 25) rfl))) (by decide) (backOf (W := 0) (rm5 l Z a0 hw [] tb p1 nn f h0 n0 Z0 A0 hI.1 (own_invfree2 hI)) hZ (hw _ (List.mem_of_getElem? (i := 25) rfl)) (hw _ (List.mem_of_getElem? (i := 9) rfl)) (by decide) (by decide)) (g := (mkF m 5 #[.val (.ref a1), .val (.int p1), .unset] [(.int p1), (.ref tb)])) rfl (by rw [hml]; rfl) (argsL := [(.ref tb), (.int p1)]) (rest := []) (lenOf pd_5 rfl) rfl (by show 2 * 0 + _ ≤ _; exact Nat.le_of_eq rfl) (hb hby d11_5) (fun _ _ => ⟨rfl, e157, (by dsimp only [Pt.cells]; decide), (by dsimp only [Pt.slots]; decide)⟩)
  dsimp only [Pt.U, Pt.locs, Pt.cells, Pt.slots] at X158 l158 y158 z158 st158 hQ158
  subst l158 y158 z158
  obtain ⟨d158, rfl, Nc158, hp158, hd158⟩ := hQ158
  have N158 := Fr.app N0 Nc158
  refine OwnWp.step st158 ?_
  have eh158 : T158.heap = h0 := hp158
  show OwnWp p e below s _ _ _ (T158.setTop (mkF m 8 #[.val (.ref a1), .val (.int p1), .unset] [(.int d158)]))
  refine OwnWp.step (U' := T158.setTop (mkF m 10 #[.val (.ref a1), .val (.int p1), .val (.int d158)] [(.ref a1)])) (fun t k => ?_) ?_
  · show Steps p.tables e below (T158.setTop (mkF m 8 #[.val (.ref a1), .val (.int p1), .unset] [(.int d158)])) _
    refine XS.istoreN X158.here hx rfl (hb hby d11_8) rfl (l' := #[.val (.ref a1), .val (.int p1), .val (.int d158)]) rfl ?_
    show Steps p.tables e below (T158.setTop (mkF m 9 #[.val (.ref a1), .val (.int p1), .val (.int d158)] [])) _
    refine XS.aloadN X158.here hx rfl (hb hby d11_9) rfl rfl ?_
    show Steps p.tables e below (T158.setTop (mkF m 10 #[.val (.ref a1), .val (.int p1), .val (.int d158)] [(.ref a1)])) _
    exact k
  obtain ⟨T159, X159, e159, st159⟩ := getF X158 hx hZ hown (host := "") (Or.inl (hw _ (List.mem_of_getElem? (i := 16) rfl))) Via.refl eh158 F0 (g := (mkF m 10 #[.val (.ref a1), .val (.int p1), .val (.int d158)] [(.ref a1)])) rfl rfl (hb hby d11_10)
  refine OwnWp.step st159 ?_
  show OwnWp p e below s _ _ _ (T159.setTop (mkF m 13 #[.val (.ref a1), .val (.int p1), .val (.int d158)] [(.ref tb)]))
  refine OwnWp.step (U' := T159.setTop (mkF m 15 #[.val (.ref a1), .val (.int p1), .val (.int d158)] [(.int (f d158.toInt))])) (fun t k => ?_) ?_
  · show Steps p.tables e below (T159.setTop (mkF m 13 #[.val (.ref a1), .val (.int p1), .val (.int d158)] [(.ref tb)])) _
    refine XS.iloadN X159.here hx rfl (hb hby d11_13) rfl ?_
    show Steps p.tables e below (T159.setTop (mkF m 14 #[.val (.ref a1), .val (.int p1), .val (.int d158)] [(.int d158), (.ref tb)])) _
    refine OwnA.ldI X159 hx hZ e159 A0 (own_found_rng hI.1 hd158).1 (own_found_rng hI.1 hd158).2 rfl rfl (hb hby d11_14) ?_
    show Steps p.tables e below (T159.setTop (mkF m 15 #[.val (.ref a1), .val (.int p1), .val (.int d158)] [(.int (f d158.toInt))])) _
    exact k
  by_cases c15_160 : (f d158.toInt) = (0 : Int32)
  · refine OwnWp.step (U' := T159.setTop (mkF m 50 #[.val (.ref a1), .val (.int p1), .val (.int d158)] [])) (fun t k => ?_) ?_
    · show Steps p.tables e below (T159.setTop (mkF m 15 #[.val (.ref a1), .val (.int p1), .val (.int d158)] [(.int (f d158.toInt))])) _
      refine XS.ifYes X159.here hx rfl (pc0 := 15) (pc' := 50) rfl (hb hby d11_15) rfl (XT.i0_eq_t c15_160) (by decide) (by decide) ?_
      exact k
    refine OwnWp.retV X159 hx hlk Bd.returns (hb hby d11_50) (by decide) (by decide) ?_
    rw [e159]
    exact ⟨rfl, N158, K0, f, s0, F0, F1, A0, own_finI hI, own_rem_no hI hx1 hd158 c15_160⟩
  · refine OwnWp.step (U' := T159.setTop (mkF m 18 #[.val (.ref a1), .val (.int p1), .val (.int d158)] [])) (fun t k => ?_) ?_
    · show Steps p.tables e below (T159.setTop (mkF m 15 #[.val (.ref a1), .val (.int p1), .val (.int d158)] [(.int (f d158.toInt))])) _
      refine XS.ifNo X159.here hx rfl (hb hby d11_15) rfl (XT.i0_eq_f c15_160) ?_
      exact k
    refine OwnWp.step (U' := T159.setTop (mkF m 19 #[.val (.ref a1), .val (.int p1), .val (.int d158)] [(.ref a1)])) (fun t k => ?_) ?_
    · show Steps p.tables e below (T159.setTop (mkF m 18 #[.val (.ref a1), .val (.int p1), .val (.int d158)] [])) _
      refine XS.aloadN X159.here hx rfl (hb hby d11_18) rfl rfl ?_
      show Steps p.tables e below (T159.setTop (mkF m 19 #[.val (.ref a1), .val (.int p1), .val (.int d158)] [(.ref a1)])) _
      exact k
    obtain ⟨T161, X161, e161, st161⟩ := getF X159 hx hZ hown (host := "") (Or.inl (hw _ (List.mem_of_getElem? (i := 16) rfl))) Via.refl e159 F0 (g := (mkF m 19 #[.val (.ref a1), .val (.int p1), .val (.int d158)] [(.ref a1)])) rfl rfl (hb hby d11_19)
    refine OwnWp.step st161 ?_
    show OwnWp p e below s _ _ _ (T161.setTop (mkF m 22 #[.val (.ref a1), .val (.int p1), .val (.int d158)] [(.ref tb)]))
    refine OwnWp.step (U' := T161.setTop (mkF m 24 #[.val (.ref a1), .val (.int p1), .val (.int d158)] [(.int (0 : Int32)), (.int d158), (.ref tb)])) (fun t k => ?_) ?_
    · show Steps p.tables e below (T161.setTop (mkF m 22 #[.val (.ref a1), .val (.int p1), .val (.int d158)] [(.ref tb)])) _
      refine XS.iloadN X161.here hx rfl (hb hby d11_22) rfl ?_
      show Steps p.tables e below (T161.setTop (mkF m 23 #[.val (.ref a1), .val (.int p1), .val (.int d158)] [(.int d158), (.ref tb)])) _
      refine XT.iconstV X161.here hx rfl (0 : Int32) (hb hby d11_23) rfl ?_
      show Steps p.tables e below (T161.setTop (mkF m 24 #[.val (.ref a1), .val (.int p1), .val (.int d158)] [(.int (0 : Int32)), (.int d158), (.ref tb)])) _
      exact k
    obtain ⟨T162, h162, L162, X162, e162, N162, K162, F162, st162⟩ := OwnA.stI X161 hx hZ e161 N158 g1 A0 (own_found_rng hI.1 hd158).1 (own_found_rng hI.1 hd158).2 (g := (mkF m 24 #[.val (.ref a1), .val (.int p1), .val (.int d158)] [(.int (0 : Int32)), (.int d158), (.ref tb)])) rfl rfl (hb hby d11_24)
    refine OwnWp.step st162 ?_
    have Z162 : n0 ≤ h162.size := Nat.le_trans Z0 K162.1
    have f163 := Exa.keep E0 K162
    have f164 := Fld.keep F0 K162 (ninS ne0 nin0)
    have f165 := Fld.keep F1 K162 (ninS ne0 nin0)
    have F166 : OwnA Z h162 tb .int nn (fun zi => .int ((ownUpd f d158.toInt (0 : Int32)) zi)) := F162.congr (fun zi _ _ => by exact ownUpd_int f _ _ zi)
    have K167 := Keep.trans K0 K162 (allS (Or.inl (List.mem_of_getElem? (i := 1) rfl)) all0)
    show OwnWp p e below s _ _ _ (T162.setTop (mkF m 25 #[.val (.ref a1), .val (.int p1), .val (.int d158)] []))
    refine OwnWp.step (U' := T162.setTop (mkF m 27 #[.val (.ref a1), .val (.int p1), .val (.int d158)] [(.ref a1), (.ref a1)])) (fun t k => ?_) ?_
    · show Steps p.tables e below (T162.setTop (mkF m 25 #[.val (.ref a1), .val (.int p1), .val (.int d158)] [])) _
      refine XS.aloadN X162.here hx rfl (hb hby d11_25) rfl rfl ?_
      show Steps p.tables e below (T162.setTop (mkF m 26 #[.val (.ref a1), .val (.int p1), .val (.int d158)] [(.ref a1)])) _
      refine XS.dup X162.here hx rfl (hb hby d11_26) rfl rfl ?_
      show Steps p.tables e below (T162.setTop (mkF m 27 #[.val (.ref a1), .val (.int p1), .val (.int d158)] [(.ref a1), (.ref a1)])) _
      exact k
    obtain ⟨T168, X168, e168, st168⟩ := getF X162 hx hZ hown (host := "") (Or.inl (hw _ (List.mem_of_getElem? (i := 39) rfl))) Via.refl e162 f165 (g := (mkF m 27 #[.val (.ref a1), .val (.int p1), .val (.int d158)] [(.ref a1), (.ref a1)])) rfl rfl (hb hby d11_27)
    refine OwnWp.step st168 ?_
    show OwnWp p e below s _ _ _ (T168.setTop (mkF m 30 #[.val (.ref a1), .val (.int p1), .val (.int d158)] [(.int s0), (.ref a1)]))
    refine OwnWp.step (U' := T168.setTop (mkF m 32 #[.val (.ref a1), .val (.int p1), .val (.int d158)] [(.int (s0 - (1 : Int32))), (.ref a1)])) (fun t k => ?_) ?_
    · show Steps p.tables e below (T168.setTop (mkF m 30 #[.val (.ref a1), .val (.int p1), .val (.int d158)] [(.int s0), (.ref a1)])) _
      refine XT.iconstV X168.here hx rfl (1 : Int32) (hb hby d11_30) rfl ?_
      show Steps p.tables e below (T168.setTop (mkF m 31 #[.val (.ref a1), .val (.int p1), .val (.int d158)] [(.int (1 : Int32)), (.int s0), (.ref a1)])) _
      refine XS.isub X168.here hx rfl (hb hby d11_31) rfl ?_
      show Steps p.tables e below (T168.setTop (mkF m 32 #[.val (.ref a1), .val (.int p1), .val (.int d158)] [(.int (s0 - (1 : Int32))), (.ref a1)])) _
      exact k
    obtain ⟨T169, h169, X169, e169, W169, st169⟩ := putF X168 hx hZ hown (host := "") (Or.inl (hw _ (List.mem_of_getElem? (i := 39) rfl))) Via.refl e168 f165 f163 (Or.inl (hw _ (List.mem_of_getElem? (i := 40) rfl))) (hw _ (List.mem_of_getElem? (i := 8) rfl)) (ty := .int) (by decide) rfl rfl (g := (mkF m 32 #[.val (.ref a1), .val (.int p1), .val (.int d158)] [(.int (s0 - (1 : Int32))), (.ref a1)])) rfl rfl (hb hby d11_32)
    have N169 := own_frs (sl := Jvm.RoadKit.slotOf Z "com/example/utu/utu/SlotNumbers" "size" "I") N162 g0
    have Z169 : n0 ≤ h169.size := by rw [W169.size]; exact Z162
    refine OwnWp.step st169 ?_
    have f170 := Exa.wr W169 f163
    have f171 := Fld.other W169 f164 (Or.inr (slot_ne (C := "com/example/utu/utu/SlotNumbers") (Or.inl (hw _ (List.mem_of_getElem? (i := 17) rfl))) (Or.inl (hw _ (List.mem_of_getElem? (i := 40) rfl))) (by decide) (t := (.array .int)) (t' := .int) (by decide) (by decide)))
    have f172 := Fld.same W169 f165
    have f173 := OwnA.other F166 W169 ne0.symm
    have K174 := Keep.wr K167 W169 (Or.inl (List.mem_of_getElem? (i := 0) rfl))
    show OwnWp p e below s _ _ _ (T169.setTop (mkF m 35 #[.val (.ref a1), .val (.int p1), .val (.int d158)] []))
    obtain ⟨T175, h175, X175, e175, E175, A175, D175, -, st175⟩ := newO X169 hx hZ hown (hw _ (List.mem_of_getElem? (i := 53) rfl)) (hw _ (List.mem_of_getElem? (i := 54) rfl)) (hw _ (List.mem_of_getElem? (i := 55) rfl)) e169 (g := (mkF m 35 #[.val (.ref a1), .val (.int p1), .val (.int d158)] [])) rfl (hb hby d11_35) (by decide) (by decide)
    obtain ⟨ad175, ga175⟩ : ∃ z, z = h169.size := ⟨_, rfl⟩
    rw [← ga175] at A175 D175 st175
    refine OwnWp.step st175 ?_
    have ne175_176 : a1 ≠ ad175 := Nat.ne_of_lt (by rw [ga175]; exact f172.lt)
    have ne175_177 : tb ≠ ad175 := Nat.ne_of_lt (by rw [ga175]; exact f173.lt)
    have bk175 : h0.size ≤ ad175 := by rw [ga175]; exact K174.1
    have K178 := Keep.ext K174 E175
    have Z175 : n0 ≤ h175.size := Nat.le_trans Z169 E175.1
    have b175 : n0 ≤ ad175 := Nat.le_trans Z169 (Nat.le_of_eq ga175.symm)
    have f179 := Exa.ext E175 f170
    have f180 := Fld.ext E175 f171
    have f181 := Fld.ext E175 f172
    have f182 := OwnA.ext f173 E175
    have F183 : Fld Z h175 ad175 "com/example/utu/utu/SlotNumbers$TablePlaces" "table" "[I" .null := D175 (Or.inr (hw _ (List.mem_of_getElem? (i := 66) rfl))) (ty := (.array .int)) (by decide)
    show OwnWp p e below s _ _ _ (T175.setTop (mkF m 38 #[.val (.ref a1), .val (.int p1), .val (.int d158)] [(.ref ad175)]))
    refine OwnWp.step (U' := T175.setTop (mkF m 40 #[.val (.ref a1), .val (.int p1), .val (.int d158)] [(.ref a1), (.ref ad175), (.ref ad175)])) (fun t k => ?_) ?_
    · show Steps p.tables e below (T175.setTop (mkF m 38 #[.val (.ref a1), .val (.int p1), .val (.int d158)] [(.ref ad175)])) _
      refine XS.dup X175.here hx rfl (hb hby d11_38) rfl rfl ?_
      show Steps p.tables e below (T175.setTop (mkF m 39 #[.val (.ref a1), .val (.int p1), .val (.int d158)] [(.ref ad175), (.ref ad175)])) _
      refine XS.aloadN X175.here hx rfl (hb hby d11_39) rfl rfl ?_
      show Steps p.tables e below (T175.setTop (mkF m 40 #[.val (.ref a1), .val (.int p1), .val (.int d158)] [(.ref a1), (.ref ad175), (.ref ad175)])) _
      exact k
    obtain ⟨T184, X184, e184, st184⟩ := getF X175 hx hZ hown (host := "") (Or.inl (hw _ (List.mem_of_getElem? (i := 16) rfl))) Via.refl e175 f180 (g := (mkF m 40 #[.val (.ref a1), .val (.int p1), .val (.int d158)] [(.ref a1), (.ref ad175), (.ref ad175)])) rfl rfl (hb hby d11_40)
    refine OwnWp.step st184 ?_
    show OwnWp p e below s _ _ _ (T184.setTop (mkF m 43 #[.val (.ref a1), .val (.int p1), .val (.int d158)] [(.ref tb), (.ref ad175), (.ref ad175)]))
    obtain ⟨_, _, ⟨T185, L185, k185, n185⟩, -, X185, ⟨Lc185, hQ185, l185, y185, z185⟩, st185⟩ := own_specialW X184 hx (y := (⟨"com/example/utu/utu/SlotNumbers$TablePlaces", "<init>", "([I)V"⟩ : MethodName)) rfl hown hZ (hw _ (List.mem_of_getElem? (i := 56) rfl)) (mvT hZ (hw _ (List.mem_of_getElem? (i := 57) rfl))) (mvT hZ (hw _ (List.mem_of_getElem? (i := 58) rfl))) (by decide) (backOf (W := 1) (rm12 l Z a0 hw [] ad175 tb h175 n0 Z175 b175 A175 F183) hZ (hw _ (List.mem_of_getElem? (i := 58) rfl)) (hw _ (List.mem_of_getElem? (i := 55) rfl)) (by decide) (by decide)) (g := (mkF m 43 #[.val (.ref a1), .val (.int p1), .val (.int d158)] [(.ref tb), (.ref ad175), (.ref ad175)])) rfl (by rw [hml]; rfl) (Steps.refl _) (a := ad175) (argsL := [(.ref tb)]) (rest := [(.ref ad175)]) (lenOf pd_12 rfl) rfl (by show 2 * 0 + _ ≤ _; exact Nat.le_of_eq rfl) (hb hby d11_43) (fun _ _ => ⟨rfl, e184, (by dsimp only [Pt.cells]; decide), (by dsimp only [Pt.slots]; decide)⟩)
    dsimp only [Pt.U, Pt.locs, Pt.cells, Pt.slots] at X185 l185 y185 z185 st185 hQ185
    subst l185 y185 z185
    obtain ⟨rfl, Nc185, Kc185, fp185⟩ := hQ185
    have N185 := Fr.app N169 Nc185
    refine OwnWp.go st185 ?_
    have Z185 : n0 ≤ T185.heap.size := Nat.le_trans Z175 Kc185.1
    have f186 := Exa.keep f179 Kc185
    have f187 := Fld.keep f180 Kc185 (ninS ne175_176 nin0)
    have f188 := Fld.keep f181 Kc185 (ninS ne175_176 nin0)
    have f189 := OwnA.keep f182 Kc185 (ninS ne175_177 nin0)
    have f190 := Exa.keep A175 Kc185
    have K192 := Keep.trans K178 Kc185 (allS (Or.inr bk175) all0)
    show OwnWp p e below s _ _ _ (T185.setTop (mkF m 46 #[.val (.ref a1), .val (.int p1), .val (.int d158)] [(.ref ad175)]))
    refine OwnWp.step (U' := T185.setTop (mkF m 47 #[.val (.ref a1), .val (.int p1), .val (.int d158)] [(.int d158), (.ref ad175)])) (fun t k => ?_) ?_
    · show Steps p.tables e below (T185.setTop (mkF m 46 #[.val (.ref a1), .val (.int p1), .val (.int d158)] [(.ref ad175)])) _
      refine XS.iloadN X185.here hx rfl (hb hby d11_46) rfl ?_
      show Steps p.tables e below (T185.setTop (mkF m 47 #[.val (.ref a1), .val (.int p1), .val (.int d158)] [(.int d158), (.ref ad175)])) _
      exact k
    obtain ⟨r1, r2, r3, r4, r5⟩ := own_rem hI hx1 hd158 c15_160
    obtain ⟨_, _, ⟨T193, L193, k193, n193⟩, -, X193, ⟨Lc193, hQ193, l193, y193, z193⟩, st193⟩ := Jvm.LawKit.callS X185 hx (y := (⟨"com/example/utu/utu/OpenAddressing", "closeGap", "(Lcom/example/utu/utu/OpenAddressing$Places;I)V"⟩ : MethodName)) hown (mvT hZ (hw _ (List.mem_of_getElem? (i := 67) rfl))) (mvT hZ (hw _ (List.mem_of_getElem? (i := 68) rfl))) (mvT hZ (hw _ (List.mem_of_getElem? (i := 31) rfl))) (mvT hZ (hw _ (List.mem_of_getElem? (i := 69) rfl))) (by decide) (backOf (W := 0) (rm14 l Z a0 hw [] ad175 d158 tb nn (ownUpd f d158.toInt (0 : Int32)) T185.heap n0 Z185 g1 ne175_177.symm f190 fp185 f189 hI.1 (own_found_rng hI.1 hd158) r1 r2 r3) hZ (hw _ (List.mem_of_getElem? (i := 69) rfl)) (hw _ (List.mem_of_getElem? (i := 31) rfl)) (by decide) (by decide)) (g := (mkF m 47 #[.val (.ref a1), .val (.int p1), .val (.int d158)] [(.int d158), (.ref ad175)])) rfl (by rw [hml]; rfl) (argsL := [(.ref ad175), (.int d158)]) (rest := []) (lenOf pd_14 rfl) rfl (by show 2 * 0 + _ ≤ _; exact Nat.le_of_eq rfl) (hb hby d11_47) (fun _ _ => ⟨rfl, (rfl : T185.heap = T185.heap), (by dsimp only [Pt.cells]; decide), (by dsimp only [Pt.slots]; decide)⟩)
    dsimp only [Pt.U, Pt.locs, Pt.cells, Pt.slots] at X193 l193 y193 z193 st193 hQ193
    subst l193 y193 z193
    obtain ⟨rfl, Nc193, Kc193, ⟨fc193, ac193, sc193⟩⟩ := hQ193
    have N193 := Fr.app N185 Nc193
    refine OwnWp.step st193 ?_
    have Z193 : n0 ≤ T193.heap.size := Nat.le_trans Z185 Kc193.1
    have f194 := Exa.keep f186 Kc193
    have f195 := Fld.keep f187 Kc193 (ninS ne0 nin0)
    have f196 := Fld.keep f188 Kc193 (ninS ne0 nin0)
    have f198 := Exa.keep f190 Kc193
    have f199 := Fld.keep fp185 Kc193 (ninS ne175_177.symm nin0)
    have K200 := Keep.trans K192 Kc193 (allS (Or.inl (List.mem_of_getElem? (i := 1) rfl)) all0)
    show OwnWp p e below s _ _ _ (T193.setTop (mkF m 50 #[.val (.ref a1), .val (.int p1), .val (.int d158)] []))
    refine OwnWp.retV X193 hx hlk Bd.returns (hb hby d11_50) (by decide) (by decide) ?_
    exact ⟨rfl, N193, K200, fc193, _, f195, f196, ac193, own_finS r4 sc193, fun y hy => by rw [sc193.2.1 y hy]; exact r5 y hy⟩
theorem d18_0 : decode prog_29_method_5_code 0 = .ok (.aload_n 0, 1) := by decide +kernel
theorem d18_1 : decode prog_29_method_5_code 1 = .ok (.getfield 17, 3) := by decide +kernel
theorem d18_4 : decode prog_29_method_5_code 4 = .ok (.newarray .int, 2) := by decide +kernel
theorem d18_6 : decode prog_29_method_5_code 6 = .ok (.astore_n 1, 1) := by decide +kernel
theorem d18_7 : decode prog_29_method_5_code 7 = .ok (.iconst 0, 1) := by decide +kernel
theorem d18_8 : decode prog_29_method_5_code 8 = .ok (.istore_n 2, 1) := by decide +kernel
theorem d18_9 : decode prog_29_method_5_code 9 = .ok (.aload_n 0, 1) := by decide +kernel
theorem d18_10 : decode prog_29_method_5_code 10 = .ok (.getfield 9, 3) := by decide +kernel
theorem d18_13 : decode prog_29_method_5_code 13 = .ok (.astore_n 3, 1) := by decide +kernel
theorem d18_14 : decode prog_29_method_5_code 14 = .ok (.aload_n 3, 1) := by decide +kernel
theorem d18_15 : decode prog_29_method_5_code 15 = .ok (.arraylength, 1) := by decide +kernel
theorem d18_16 : decode prog_29_method_5_code 16 = .ok (.istore 4, 2) := by decide +kernel
theorem d18_18 : decode prog_29_method_5_code 18 = .ok (.iconst 0, 1) := by decide +kernel
theorem d18_19 : decode prog_29_method_5_code 19 = .ok (.istore 5, 2) := by decide +kernel
theorem d18_21 : decode prog_29_method_5_code 21 = .ok (.iload 5, 2) := by decide +kernel
theorem d18_23 : decode prog_29_method_5_code 23 = .ok (.iload 4, 2) := by decide +kernel
theorem d18_25 : decode prog_29_method_5_code 25 = .ok (.if_icmp .ge 28, 3) := by decide +kernel
theorem d18_28 : decode prog_29_method_5_code 28 = .ok (.aload_n 3, 1) := by decide +kernel
theorem d18_29 : decode prog_29_method_5_code 29 = .ok (.iload 5, 2) := by decide +kernel
theorem d18_31 : decode prog_29_method_5_code 31 = .ok (.iaload, 1) := by decide +kernel
theorem d18_32 : decode prog_29_method_5_code 32 = .ok (.istore 6, 2) := by decide +kernel
theorem d18_34 : decode prog_29_method_5_code 34 = .ok (.iload 6, 2) := by decide +kernel
theorem d18_36 : decode prog_29_method_5_code 36 = .ok (.ifCond .eq 11, 3) := by decide +kernel
theorem d18_39 : decode prog_29_method_5_code 39 = .ok (.aload_n 1, 1) := by decide +kernel
theorem d18_40 : decode prog_29_method_5_code 40 = .ok (.iload_n 2, 1) := by decide +kernel
theorem d18_41 : decode prog_29_method_5_code 41 = .ok (.iinc 2 1, 3) := by decide +kernel
theorem d18_44 : decode prog_29_method_5_code 44 = .ok (.iload 6, 2) := by decide +kernel
theorem d18_46 : decode prog_29_method_5_code 46 = .ok (.iastore, 1) := by decide +kernel
theorem d18_47 : decode prog_29_method_5_code 47 = .ok (.iinc 5 1, 3) := by decide +kernel
theorem d18_50 : decode prog_29_method_5_code 50 = .ok (.goto (-29), 3) := by decide +kernel
theorem d18_53 : decode prog_29_method_5_code 53 = .ok (.aload_n 1, 1) := by decide +kernel
theorem d18_54 : decode prog_29_method_5_code 54 = .ok (.areturn, 1) := by decide +kernel
theorem pn_18 : plainFor (⟨"com/example/utu/utu/SlotNumbers", "toArray", "()[I"⟩ : MethodName) = true := plainFor_of_name (by first | (simp [plainName, overriddenIn]; done) | decide +kernel)
theorem pd_18 : parseMethodDescriptor "()[I" = some ⟨[], some (.array .int)⟩ := by decide +kernel
theorem ef_18 (m : MethodId) (x0 : Addr) : entryFrame m #[(.ref x0)] 7 = mkF m 0 #[.val (.ref x0), .unset, .unset, .unset, .unset, .unset, .unset] [] := by first | (simp [entryFrame, mkF, argsToLocals, Value.category, maxLocals]; done) | rfl
def Q18 (Z : State) (a1 : Addr) (tb : Addr) (nn : Int32) (f : Int → Int32) (s0 : Int32) (h0 : Heap) (n0 : Nat) (v : Option Value) (h : Heap) (L : List Loc) : Prop := ∃ (b : Addr) (ar : Int → Int32), v = some (.ref b) ∧ Fr n0 L ∧ n0 ≤ b ∧ h0.size ≤ b ∧ Keep h0 h [] ∧ OwnA Z h b .int s0 (fun i => .int (ar i)) ∧ own_arr f ar nn.toInt s0.toInt
set_option maxRecDepth 65536 in
set_option maxHeartbeats 40000000 in
theorem rm18 (l : Launch) (Z : State) (a0 : Array Value) (hw : ∀ d ∈ tables_1, d.before a0 Z = true) (ws : List Jvm.Cond) (a1 : Addr) (tb : Addr) (nn : Int32) (f : Int → Int32) (s0 : Int32) (h0 : Heap) (n0 : Nat) (Z0 : n0 ≤ h0.size) (F0 : Fld Z h0 a1 "com/example/utu/utu/SlotNumbers" "table" "[I" (.ref tb)) (F1 : Fld Z h0 a1 "com/example/utu/utu/SlotNumbers" "size" "I" (.int s0)) (A0 : OwnA Z h0 tb .int nn (fun i => .int (f i))) (hI : own_tfin nn f s0) :
    MetFree l (⟨"com/example/utu/utu/SlotNumbers", "toArray", "()[I"⟩ : MethodName) (head1 (Jvm.Cond.code (⟨"com/example/utu/utu/SlotNumbers", "toArray", "()[I"⟩ : MethodName) prog_29_method_5_code 7 (some (.array .int)) :: ws) ({ frames := 0, cells := 1, slots := 4, locals := 0 } : Room)) (fun a U => a = #[(.ref a1)] ∧ Z.Warmed39 U.vm ∧ U.heap = h0) (fun _ _ _ _ _ => True) (fun _ U oc U' => ∃ v L, oc = .returned v ∧ Q18 Z a1 tb nn f s0 h0 n0 v U'.heap L ∧ FrameEnd U oc U' L ({ frames := 0, cells := 1, slots := 4, locals := 0 } : Room).cells ({ frames := 0, cells := 1, slots := 4, locals := 0 } : Room).slots) := by
  refine MetFree.of_bodySF pn_18 hisR ?_
  intro p e s m args below meth c s₁ Bd hml0 hP hK
  obtain ⟨rfl, hZ, hh⟩ := hP
  have hx := Bd.exec
  have hby := Bd.bytes
  have hlk := BodyLoose.notSynchronized Bd
  have hml : c.maxLocals = 7 := hml0
  have hown : s.vm.findClass "com/example/utu/utu/SlotNumbers" = some m.cls := findClass_of_methodNamed Bd.named
  have hnm := (name_of_methodNamed Bd.named Bd.method).1
  have X0 : Stand p l e ({ frames := 0, cells := 1, slots := 4, locals := 0 } : Room) s m #[(.ref a1)] below meth c s₁ [] 0 0 := Stand.of_body Bd
  have e0 : s₁.heap = h0 := by rw [← hh, Bd.state]; rfl
  have N0 := Fr.nil n0
  show OwnWp p e below s ({ frames := 0, cells := 1, slots := 4, locals := 0 } : Room).cells ({ frames := 0, cells := 1, slots := 4, locals := 0 } : Room).slots (Q18 Z a1 tb nn f s0 h0 n0) (s₁.setTop (entryFrame m #[(.ref a1)] 7))
  refine OwnWp.cast (ef_18 m a1) ?_
  show OwnWp p e below s _ _ _ (s₁.setTop (mkF m 0 #[.val (.ref a1), .unset, .unset, .unset, .unset, .unset, .unset] []))
  have K0 := Keep.refl h0 []
  obtain ⟨hs0, hs1, hs2⟩ := own_fin_size hI
  refine OwnWp.step (U' := s₁.setTop (mkF m 1 #[.val (.ref a1), .unset, .unset, .unset, .unset, .unset, .unset] [(.ref a1)])) (fun t k => ?_) ?_
  · show Steps p.tables e below (s₁.setTop (mkF m 0 #[.val (.ref a1), .unset, .unset, .unset, .unset, .unset, .unset] [])) _
    refine XS.aloadN X0.here hx rfl (hb hby d18_0) rfl rfl ?_
    show Steps p.tables e below (s₁.setTop (mkF m 1 #[.val (.ref a1), .unset, .unset, .unset, .unset, .unset, .unset] [(.ref a1)])) _
    exact k
  obtain ⟨T201, X201, e201, st201⟩ := getF X0 hx hZ hown (host := "") (Or.inl (hw _ (List.mem_of_getElem? (i := 39) rfl))) Via.refl e0 F1 (g := (mkF m 1 #[.val (.ref a1), .unset, .unset, .unset, .unset, .unset, .unset] [(.ref a1)])) rfl rfl (hb hby d18_1)
  refine OwnWp.step st201 ?_
  show OwnWp p e below s _ _ _ (T201.setTop (mkF m 4 #[.val (.ref a1), .unset, .unset, .unset, .unset, .unset, .unset] [(.int s0)]))
  obtain ⟨T202, h202, cA202, X202, e202, E202, Ar202, st202⟩ := newP X201 hx hZ (aty := .int) (hw _ (List.mem_of_getElem? (i := 5) rfl)) e201 (g := (mkF m 4 #[.val (.ref a1), .unset, .unset, .unset, .unset, .unset, .unset] [(.int s0)])) rfl (hb hby d18_4) rfl hs1 (cap := 4) hs2 (by decide) (by decide) (by decide)
  obtain ⟨ad202, ga202⟩ : ∃ z, z = h0.size := ⟨_, rfl⟩
  rw [← ga202] at Ar202 st202
  refine OwnWp.step st202 ?_
  have ne202_203 : a1 ≠ ad202 := Nat.ne_of_lt (by rw [ga202]; exact F1.lt)
  have ne202_204 : tb ≠ ad202 := Nat.ne_of_lt (by rw [ga202]; exact A0.lt)
  have Z202 : n0 ≤ h202.size := Nat.le_trans Z0 E202.1
  have b202 : n0 ≤ ad202 := Nat.le_trans Z0 (Nat.le_of_eq ga202.symm)
  have bk202 : h0.size ≤ ad202 := by rw [ga202]; exact K0.1
  have K205 := Keep.ext K0 E202
  have f206 := Fld.ext E202 F0
  have f207 := Fld.ext E202 F1
  have f208 := OwnA.ext A0 E202
  have F209 : OwnA Z h202 ad202 .int s0 (fun _ => (.int (0 : Int32))) := OwnA.new Ar202 hs0
  show OwnWp p e below s _ _ _ (T202.setTop (mkF m 6 #[.val (.ref a1), .unset, .unset, .unset, .unset, .unset, .unset] [(.ref ad202)]))
  refine OwnWp.step (U' := T202.setTop (mkF m 10 #[.val (.ref a1), .val (.ref ad202), .val (.int (0 : Int32)), .unset, .unset, .unset, .unset] [(.ref a1)])) (fun t k => ?_) ?_
  · show Steps p.tables e below (T202.setTop (mkF m 6 #[.val (.ref a1), .unset, .unset, .unset, .unset, .unset, .unset] [(.ref ad202)])) _
    refine XS.astoreN X202.here hx rfl (hb hby d18_6) rfl rfl (l' := #[.val (.ref a1), .val (.ref ad202), .unset, .unset, .unset, .unset, .unset]) rfl ?_
    show Steps p.tables e below (T202.setTop (mkF m 7 #[.val (.ref a1), .val (.ref ad202), .unset, .unset, .unset, .unset, .unset] [])) _
    refine XT.iconstV X202.here hx rfl (0 : Int32) (hb hby d18_7) rfl ?_
    show Steps p.tables e below (T202.setTop (mkF m 8 #[.val (.ref a1), .val (.ref ad202), .unset, .unset, .unset, .unset, .unset] [(.int (0 : Int32))])) _
    refine XS.istoreN X202.here hx rfl (hb hby d18_8) rfl (l' := #[.val (.ref a1), .val (.ref ad202), .val (.int (0 : Int32)), .unset, .unset, .unset, .unset]) rfl ?_
    show Steps p.tables e below (T202.setTop (mkF m 9 #[.val (.ref a1), .val (.ref ad202), .val (.int (0 : Int32)), .unset, .unset, .unset, .unset] [])) _
    refine XS.aloadN X202.here hx rfl (hb hby d18_9) rfl rfl ?_
    show Steps p.tables e below (T202.setTop (mkF m 10 #[.val (.ref a1), .val (.ref ad202), .val (.int (0 : Int32)), .unset, .unset, .unset, .unset] [(.ref a1)])) _
    exact k
  obtain ⟨T210, X210, e210, st210⟩ := getF X202 hx hZ hown (host := "") (Or.inl (hw _ (List.mem_of_getElem? (i := 16) rfl))) Via.refl e202 f206 (g := (mkF m 10 #[.val (.ref a1), .val (.ref ad202), .val (.int (0 : Int32)), .unset, .unset, .unset, .unset] [(.ref a1)])) rfl rfl (hb hby d18_10)
  refine OwnWp.step st210 ?_
  show OwnWp p e below s _ _ _ (T210.setTop (mkF m 13 #[.val (.ref a1), .val (.ref ad202), .val (.int (0 : Int32)), .unset, .unset, .unset, .unset] [(.ref tb)]))
  refine OwnWp.step (U' := T210.setTop (mkF m 21 #[.val (.ref a1), .val (.ref ad202), .val (.int (0 : Int32)), .val (.ref tb), .val (.int nn), .val (.int (0 : Int32)), .unset] [])) (fun t k => ?_) ?_
  · show Steps p.tables e below (T210.setTop (mkF m 13 #[.val (.ref a1), .val (.ref ad202), .val (.int (0 : Int32)), .unset, .unset, .unset, .unset] [(.ref tb)])) _
    refine XS.astoreN X210.here hx rfl (hb hby d18_13) rfl rfl (l' := #[.val (.ref a1), .val (.ref ad202), .val (.int (0 : Int32)), .val (.ref tb), .unset, .unset, .unset]) rfl ?_
    show Steps p.tables e below (T210.setTop (mkF m 14 #[.val (.ref a1), .val (.ref ad202), .val (.int (0 : Int32)), .val (.ref tb), .unset, .unset, .unset] [])) _
    refine XS.aloadN X210.here hx rfl (hb hby d18_14) rfl rfl ?_
    show Steps p.tables e below (T210.setTop (mkF m 15 #[.val (.ref a1), .val (.ref ad202), .val (.int (0 : Int32)), .val (.ref tb), .unset, .unset, .unset] [(.ref tb)])) _
    refine OwnA.alen X210 hx hZ e210 f208 rfl rfl (hb hby d18_15) ?_
    show Steps p.tables e below (T210.setTop (mkF m 16 #[.val (.ref a1), .val (.ref ad202), .val (.int (0 : Int32)), .val (.ref tb), .unset, .unset, .unset] [(.int nn)])) _
    refine XS.istore X210.here hx rfl (hb hby d18_16) rfl (l' := #[.val (.ref a1), .val (.ref ad202), .val (.int (0 : Int32)), .val (.ref tb), .val (.int nn), .unset, .unset]) rfl ?_
    show Steps p.tables e below (T210.setTop (mkF m 18 #[.val (.ref a1), .val (.ref ad202), .val (.int (0 : Int32)), .val (.ref tb), .val (.int nn), .unset, .unset] [])) _
    refine XT.iconstV X210.here hx rfl (0 : Int32) (hb hby d18_18) rfl ?_
    show Steps p.tables e below (T210.setTop (mkF m 19 #[.val (.ref a1), .val (.ref ad202), .val (.int (0 : Int32)), .val (.ref tb), .val (.int nn), .unset, .unset] [(.int (0 : Int32))])) _
    refine XS.istore X210.here hx rfl (hb hby d18_19) rfl (l' := #[.val (.ref a1), .val (.ref ad202), .val (.int (0 : Int32)), .val (.ref tb), .val (.int nn), .val (.int (0 : Int32)), .unset]) rfl ?_
    show Steps p.tables e below (T210.setTop (mkF m 21 #[.val (.ref a1), .val (.ref ad202), .val (.int (0 : Int32)), .val (.ref tb), .val (.int nn), .val (.int (0 : Int32)), .unset] [])) _
    exact k
  have hloop : ∀ (k : Nat) (T211 : State) (h211 : Heap) (L211 : List Loc) (ct : Int32) (i : Int32) (s6 : Slot) (ar : Int → Int32) (X211 : Stand p l e ({ frames := 0, cells := 1, slots := 4, locals := 0 } : Room) s m #[(.ref a1)] below meth c T211 L211 (0 + 1) (0 + 4)) (e211 : T211.heap = h211) (N211 : Fr n0 L211) (Z211 : n0 ≤ h211.size) (f212 : Fld Z h211 a1 "com/example/utu/utu/SlotNumbers" "table" "[I" (.ref tb)) (f213 : Fld Z h211 a1 "com/example/utu/utu/SlotNumbers" "size" "I" (.int s0)) (f214 : OwnA Z h211 tb .int nn (fun zi => .int (f zi))) (f215 : OwnA Z h211 ad202 .int s0 (fun zi => .int (ar zi))) (K216 : Keep h0 h211 []) (hs6 : One s6) (hi : i.toInt + (k : Int) = nn.toInt) (hi0 : 0 ≤ i.toInt) (hc : ct.toInt = ((own_cnt f i.toInt.toNat : Nat) : Int)) (hA : own_arr f ar i.toInt ct.toInt), OwnWp p e below s ({ frames := 0, cells := 1, slots := 4, locals := 0 } : Room).cells ({ frames := 0, cells := 1, slots := 4, locals := 0 } : Room).slots (Q18 Z a1 tb nn f s0 h0 n0) (T211.setTop (mkF m 21 #[.val (.ref a1), .val (.ref ad202), .val (.int ct), .val (.ref tb), .val (.int nn), .val (.int i), s6] [])) := by
    intro k
    induction k with
    | zero =>
      intro T211 h211 L211 ct i s6 ar X211 e211 N211 Z211 f212 f213 f214 f215 K216 hs6 hi hi0 hc hA
      refine OwnWp.step (U' := T211.setTop (mkF m 25 #[.val (.ref a1), .val (.ref ad202), .val (.int ct), .val (.ref tb), .val (.int nn), .val (.int i), s6] [(.int nn), (.int i)])) (fun t k => ?_) ?_
      · show Steps p.tables e below (T211.setTop (mkF m 21 #[.val (.ref a1), .val (.ref ad202), .val (.int ct), .val (.ref tb), .val (.int nn), .val (.int i), s6] [])) _
        refine XS.iload X211.here hx rfl (hb hby d18_21) rfl ?_
        show Steps p.tables e below (T211.setTop (mkF m 23 #[.val (.ref a1), .val (.ref ad202), .val (.int ct), .val (.ref tb), .val (.int nn), .val (.int i), s6] [(.int i)])) _
        refine XS.iload X211.here hx rfl (hb hby d18_23) rfl ?_
        show Steps p.tables e below (T211.setTop (mkF m 25 #[.val (.ref a1), .val (.ref ad202), .val (.int ct), .val (.ref tb), .val (.int nn), .val (.int i), s6] [(.int nn), (.int i)])) _
        exact k
      by_cases c25_217 : i < nn
      · refine OwnWp.step (U' := T211.setTop (mkF m 28 #[.val (.ref a1), .val (.ref ad202), .val (.int ct), .val (.ref tb), .val (.int nn), .val (.int i), s6] [])) (fun t k => ?_) ?_
        · show Steps p.tables e below (T211.setTop (mkF m 25 #[.val (.ref a1), .val (.ref ad202), .val (.int ct), .val (.ref tb), .val (.int nn), .val (.int i), s6] [(.int nn), (.int i)])) _
          refine XS.icmpNo X211.here hx rfl (hb hby d18_25) rfl (XT.ii_ge_f c25_217) ?_
          exact k
        have hlt : i.toInt < nn.toInt := by rw [Int32.lt_iff_toInt_lt] at c25_217; exact c25_217
        exact absurd hi (by omega)
      · refine OwnWp.step (U' := T211.setTop (mkF m 53 #[.val (.ref a1), .val (.ref ad202), .val (.int ct), .val (.ref tb), .val (.int nn), .val (.int i), s6] [])) (fun t k => ?_) ?_
        · show Steps p.tables e below (T211.setTop (mkF m 25 #[.val (.ref a1), .val (.ref ad202), .val (.int ct), .val (.ref tb), .val (.int nn), .val (.int i), s6] [(.int nn), (.int i)])) _
          refine XS.icmpYes X211.here hx rfl (pc0 := 25) (pc' := 53) rfl (hb hby d18_25) rfl (XT.ii_ge_t c25_217) (by decide) (by decide) ?_
          exact k
        have hlt : ¬ i.toInt < nn.toInt := by rw [Int32.lt_iff_toInt_lt] at c25_217; exact c25_217
        refine OwnWp.step (U' := T211.setTop (mkF m 54 #[.val (.ref a1), .val (.ref ad202), .val (.int ct), .val (.ref tb), .val (.int nn), .val (.int i), s6] [(.ref ad202)])) (fun t k => ?_) ?_
        · show Steps p.tables e below (T211.setTop (mkF m 53 #[.val (.ref a1), .val (.ref ad202), .val (.int ct), .val (.ref tb), .val (.int nn), .val (.int i), s6] [])) _
          refine XS.aloadN X211.here hx rfl (hb hby d18_53) rfl rfl ?_
          show Steps p.tables e below (T211.setTop (mkF m 54 #[.val (.ref a1), .val (.ref ad202), .val (.int ct), .val (.ref tb), .val (.int nn), .val (.int i), s6] [(.ref ad202)])) _
          exact k
        refine OwnWp.retA X211 hx hlk Bd.returns rfl rfl (hb hby d18_54) (by decide) (by decide) ?_
        rw [e211]
        exact ⟨ad202, ar, rfl, N211, b202, bk202, K216, f215, own_arr_end hI hi hc hA⟩
    | succ k ih =>
      intro T211 h211 L211 ct i s6 ar X211 e211 N211 Z211 f212 f213 f214 f215 K216 hs6 hi hi0 hc hA
      refine OwnWp.step (U' := T211.setTop (mkF m 25 #[.val (.ref a1), .val (.ref ad202), .val (.int ct), .val (.ref tb), .val (.int nn), .val (.int i), s6] [(.int nn), (.int i)])) (fun t k => ?_) ?_
      · show Steps p.tables e below (T211.setTop (mkF m 21 #[.val (.ref a1), .val (.ref ad202), .val (.int ct), .val (.ref tb), .val (.int nn), .val (.int i), s6] [])) _
        refine XS.iload X211.here hx rfl (hb hby d18_21) rfl ?_
        show Steps p.tables e below (T211.setTop (mkF m 23 #[.val (.ref a1), .val (.ref ad202), .val (.int ct), .val (.ref tb), .val (.int nn), .val (.int i), s6] [(.int i)])) _
        refine XS.iload X211.here hx rfl (hb hby d18_23) rfl ?_
        show Steps p.tables e below (T211.setTop (mkF m 25 #[.val (.ref a1), .val (.ref ad202), .val (.int ct), .val (.ref tb), .val (.int nn), .val (.int i), s6] [(.int nn), (.int i)])) _
        exact k
      by_cases c25_218 : i < nn
      · refine OwnWp.step (U' := T211.setTop (mkF m 28 #[.val (.ref a1), .val (.ref ad202), .val (.int ct), .val (.ref tb), .val (.int nn), .val (.int i), s6] [])) (fun t k => ?_) ?_
        · show Steps p.tables e below (T211.setTop (mkF m 25 #[.val (.ref a1), .val (.ref ad202), .val (.int ct), .val (.ref tb), .val (.int nn), .val (.int i), s6] [(.int nn), (.int i)])) _
          refine XS.icmpNo X211.here hx rfl (hb hby d18_25) rfl (XT.ii_ge_f c25_218) ?_
          exact k
        have hlt : i.toInt < nn.toInt := by rw [Int32.lt_iff_toInt_lt] at c25_218; exact c25_218
        obtain ⟨w1, qw1⟩ : ∃ z : Int32, z = (f i.toInt) := ⟨_, rfl⟩
        refine OwnWp.step (U' := T211.setTop (mkF m 34 #[.val (.ref a1), .val (.ref ad202), .val (.int ct), .val (.ref tb), .val (.int nn), .val (.int i), .val (.int w1)] [])) (fun t k => ?_) ?_
        · show Steps p.tables e below (T211.setTop (mkF m 28 #[.val (.ref a1), .val (.ref ad202), .val (.int ct), .val (.ref tb), .val (.int nn), .val (.int i), s6] [])) _
          refine XS.aloadN X211.here hx rfl (hb hby d18_28) rfl rfl ?_
          show Steps p.tables e below (T211.setTop (mkF m 29 #[.val (.ref a1), .val (.ref ad202), .val (.int ct), .val (.ref tb), .val (.int nn), .val (.int i), s6] [(.ref tb)])) _
          refine XS.iload X211.here hx rfl (hb hby d18_29) rfl ?_
          show Steps p.tables e below (T211.setTop (mkF m 31 #[.val (.ref a1), .val (.ref ad202), .val (.int ct), .val (.ref tb), .val (.int nn), .val (.int i), s6] [(.int i), (.ref tb)])) _
          refine OwnA.ldI X211 hx hZ e211 f214 hi0 hlt rfl rfl (hb hby d18_31) ?_
          show Steps p.tables e below (T211.setTop (mkF m 32 #[.val (.ref a1), .val (.ref ad202), .val (.int ct), .val (.ref tb), .val (.int nn), .val (.int i), s6] [(.int (f i.toInt))])) _
          refine XS.istoreS X211.here hx rfl (hb hby d18_32) rfl (o := s6) rfl hs6 ?_
          show Steps p.tables e below (T211.setTop (mkF m 34 #[.val (.ref a1), .val (.ref ad202), .val (.int ct), .val (.ref tb), .val (.int nn), .val (.int i), .val (.int (f i.toInt))] [])) _
          rw [qw1] at k
          exact k
        refine OwnWp.step (U' := T211.setTop (mkF m 36 #[.val (.ref a1), .val (.ref ad202), .val (.int ct), .val (.ref tb), .val (.int nn), .val (.int i), .val (.int w1)] [(.int w1)])) (fun t k => ?_) ?_
        · show Steps p.tables e below (T211.setTop (mkF m 34 #[.val (.ref a1), .val (.ref ad202), .val (.int ct), .val (.ref tb), .val (.int nn), .val (.int i), .val (.int w1)] [])) _
          refine XS.iload X211.here hx rfl (hb hby d18_34) rfl ?_
          show Steps p.tables e below (T211.setTop (mkF m 36 #[.val (.ref a1), .val (.ref ad202), .val (.int ct), .val (.ref tb), .val (.int nn), .val (.int i), .val (.int w1)] [(.int w1)])) _
          exact k
        by_cases c36_219 : w1 = (0 : Int32)
        · refine OwnWp.step (U' := T211.setTop (mkF m 47 #[.val (.ref a1), .val (.ref ad202), .val (.int ct), .val (.ref tb), .val (.int nn), .val (.int i), .val (.int w1)] [])) (fun t k => ?_) ?_
          · show Steps p.tables e below (T211.setTop (mkF m 36 #[.val (.ref a1), .val (.ref ad202), .val (.int ct), .val (.ref tb), .val (.int nn), .val (.int i), .val (.int w1)] [(.int w1)])) _
            refine XS.ifYes X211.here hx rfl (pc0 := 36) (pc' := 47) rfl (hb hby d18_36) rfl (XT.i0_eq_t c36_219) (by decide) (by decide) ?_
            exact k
          obtain ⟨w2, qw2⟩ : ∃ z : Int32, z = (i + (1 : Int32)) := ⟨_, rfl⟩
          refine OwnWp.step (U' := T211.setTop (mkF m 50 #[.val (.ref a1), .val (.ref ad202), .val (.int ct), .val (.ref tb), .val (.int nn), .val (.int w2), .val (.int w1)] [])) (fun t k => ?_) ?_
          · show Steps p.tables e below (T211.setTop (mkF m 47 #[.val (.ref a1), .val (.ref ad202), .val (.int ct), .val (.ref tb), .val (.int nn), .val (.int i), .val (.int w1)] [])) _
            refine XT.iincV X211.here hx rfl (1 : Int32) (hb hby d18_47) rfl rfl (l' := #[.val (.ref a1), .val (.ref ad202), .val (.int ct), .val (.ref tb), .val (.int nn), .val (.int (i + (1 : Int32))), .val (.int w1)]) rfl ?_
            show Steps p.tables e below (T211.setTop (mkF m 50 #[.val (.ref a1), .val (.ref ad202), .val (.int ct), .val (.ref tb), .val (.int nn), .val (.int (i + (1 : Int32))), .val (.int w1)] [])) _
            rw [qw2] at k
            exact k
          refine OwnWp.step (U' := T211.setTop (mkF m 21 #[.val (.ref a1), .val (.ref ad202), .val (.int ct), .val (.ref tb), .val (.int nn), .val (.int w2), .val (.int w1)] [])) (fun t k => ?_) ?_
          · show Steps p.tables e below (T211.setTop (mkF m 50 #[.val (.ref a1), .val (.ref ad202), .val (.int ct), .val (.ref tb), .val (.int nn), .val (.int w2), .val (.int w1)] [])) _
            refine XS.goto X211.here hx rfl (pc0 := 50) (pc' := 21) rfl (hb hby d18_50) (by decide) (by decide) ?_
            show Steps p.tables e below (T211.setTop (mkF m 21 #[.val (.ref a1), .val (.ref ad202), .val (.int ct), .val (.ref tb), .val (.int nn), .val (.int w2), .val (.int w1)] [])) _
            exact k
          obtain ⟨t1, t2, t3, t4⟩ := own_ta0 hI hi hi0 hc hA w2 (by rw [← qw1]; exact c36_219) qw2
          exact ih  T211 h211 _ ct w2 _ ar X211 e211 N211 Z211 f212 f213 f214 f215 K216 (One.val rfl) t1 t2 t3 t4
        · refine OwnWp.step (U' := T211.setTop (mkF m 39 #[.val (.ref a1), .val (.ref ad202), .val (.int ct), .val (.ref tb), .val (.int nn), .val (.int i), .val (.int w1)] [])) (fun t k => ?_) ?_
          · show Steps p.tables e below (T211.setTop (mkF m 36 #[.val (.ref a1), .val (.ref ad202), .val (.int ct), .val (.ref tb), .val (.int nn), .val (.int i), .val (.int w1)] [(.int w1)])) _
            refine XS.ifNo X211.here hx rfl (hb hby d18_36) rfl (XT.i0_eq_f c36_219) ?_
            exact k
          obtain ⟨w2, qw2⟩ : ∃ z : Int32, z = (ct + (1 : Int32)) := ⟨_, rfl⟩
          refine OwnWp.step (U' := T211.setTop (mkF m 44 #[.val (.ref a1), .val (.ref ad202), .val (.int w2), .val (.ref tb), .val (.int nn), .val (.int i), .val (.int w1)] [(.int ct), (.ref ad202)])) (fun t k => ?_) ?_
          · show Steps p.tables e below (T211.setTop (mkF m 39 #[.val (.ref a1), .val (.ref ad202), .val (.int ct), .val (.ref tb), .val (.int nn), .val (.int i), .val (.int w1)] [])) _
            refine XS.aloadN X211.here hx rfl (hb hby d18_39) rfl rfl ?_
            show Steps p.tables e below (T211.setTop (mkF m 40 #[.val (.ref a1), .val (.ref ad202), .val (.int ct), .val (.ref tb), .val (.int nn), .val (.int i), .val (.int w1)] [(.ref ad202)])) _
            refine XS.iloadN X211.here hx rfl (hb hby d18_40) rfl ?_
            show Steps p.tables e below (T211.setTop (mkF m 41 #[.val (.ref a1), .val (.ref ad202), .val (.int ct), .val (.ref tb), .val (.int nn), .val (.int i), .val (.int w1)] [(.int ct), (.ref ad202)])) _
            refine XT.iincV X211.here hx rfl (1 : Int32) (hb hby d18_41) rfl rfl (l' := #[.val (.ref a1), .val (.ref ad202), .val (.int (ct + (1 : Int32))), .val (.ref tb), .val (.int nn), .val (.int i), .val (.int w1)]) rfl ?_
            show Steps p.tables e below (T211.setTop (mkF m 44 #[.val (.ref a1), .val (.ref ad202), .val (.int (ct + (1 : Int32))), .val (.ref tb), .val (.int nn), .val (.int i), .val (.int w1)] [(.int ct), (.ref ad202)])) _
            rw [qw2] at k
            exact k
          refine OwnWp.step (U' := T211.setTop (mkF m 46 #[.val (.ref a1), .val (.ref ad202), .val (.int w2), .val (.ref tb), .val (.int nn), .val (.int i), .val (.int w1)] [(.int w1), (.int ct), (.ref ad202)])) (fun t k => ?_) ?_
          · show Steps p.tables e below (T211.setTop (mkF m 44 #[.val (.ref a1), .val (.ref ad202), .val (.int w2), .val (.ref tb), .val (.int nn), .val (.int i), .val (.int w1)] [(.int ct), (.ref ad202)])) _
            refine XS.iload X211.here hx rfl (hb hby d18_44) rfl ?_
            show Steps p.tables e below (T211.setTop (mkF m 46 #[.val (.ref a1), .val (.ref ad202), .val (.int w2), .val (.ref tb), .val (.int nn), .val (.int i), .val (.int w1)] [(.int w1), (.int ct), (.ref ad202)])) _
            exact k
          obtain ⟨u1, u2⟩ := own_tain hI hi hi0 hc (by rw [← qw1]; exact c36_219)
          obtain ⟨T220, h220, L220, X220, e220, N220, K220, F220, st220⟩ := OwnA.stI X211 hx hZ e211 N211 b202 f215 u1 u2 (g := (mkF m 46 #[.val (.ref a1), .val (.ref ad202), .val (.int w2), .val (.ref tb), .val (.int nn), .val (.int i), .val (.int w1)] [(.int w1), (.int ct), (.ref ad202)])) rfl rfl (hb hby d18_46)
          refine OwnWp.step st220 ?_
          have Z220 : n0 ≤ h220.size := Nat.le_trans Z211 K220.1
          have f221 := Fld.keep f212 K220 (ninS ne202_203 nin0)
          have f222 := Fld.keep f213 K220 (ninS ne202_203 nin0)
          have f223 := OwnA.keep f214 K220 (ninS ne202_204 nin0)
          have F224 : OwnA Z h220 ad202 .int s0 (fun zi => .int ((ownUpd ar ct.toInt w1) zi)) := F220.congr (fun zi _ _ => by exact ownUpd_int ar _ _ zi)
          have K225 := Keep.trans K216 K220 (allS (Or.inr bk202) all0)
          show OwnWp p e below s _ _ _ (T220.setTop (mkF m 47 #[.val (.ref a1), .val (.ref ad202), .val (.int w2), .val (.ref tb), .val (.int nn), .val (.int i), .val (.int w1)] []))
          obtain ⟨w3, qw3⟩ : ∃ z : Int32, z = (i + (1 : Int32)) := ⟨_, rfl⟩
          refine OwnWp.step (U' := T220.setTop (mkF m 50 #[.val (.ref a1), .val (.ref ad202), .val (.int w2), .val (.ref tb), .val (.int nn), .val (.int w3), .val (.int w1)] [])) (fun t k => ?_) ?_
          · show Steps p.tables e below (T220.setTop (mkF m 47 #[.val (.ref a1), .val (.ref ad202), .val (.int w2), .val (.ref tb), .val (.int nn), .val (.int i), .val (.int w1)] [])) _
            refine XT.iincV X220.here hx rfl (1 : Int32) (hb hby d18_47) rfl rfl (l' := #[.val (.ref a1), .val (.ref ad202), .val (.int w2), .val (.ref tb), .val (.int nn), .val (.int (i + (1 : Int32))), .val (.int w1)]) rfl ?_
            show Steps p.tables e below (T220.setTop (mkF m 50 #[.val (.ref a1), .val (.ref ad202), .val (.int w2), .val (.ref tb), .val (.int nn), .val (.int (i + (1 : Int32))), .val (.int w1)] [])) _
            rw [qw3] at k
            exact k
          refine OwnWp.step (U' := T220.setTop (mkF m 21 #[.val (.ref a1), .val (.ref ad202), .val (.int w2), .val (.ref tb), .val (.int nn), .val (.int w3), .val (.int w1)] [])) (fun t k => ?_) ?_
          · show Steps p.tables e below (T220.setTop (mkF m 50 #[.val (.ref a1), .val (.ref ad202), .val (.int w2), .val (.ref tb), .val (.int nn), .val (.int w3), .val (.int w1)] [])) _
            refine XS.goto X220.here hx rfl (pc0 := 50) (pc' := 21) rfl (hb hby d18_50) (by decide) (by decide) ?_
            show Steps p.tables e below (T220.setTop (mkF m 21 #[.val (.ref a1), .val (.ref ad202), .val (.int w2), .val (.ref tb), .val (.int nn), .val (.int w3), .val (.int w1)] [])) _
            exact k
          obtain ⟨t1, t2, t3, t4⟩ := own_ta1 hI hi hi0 hc hA w3 w2 (by rw [← qw1]; exact c36_219) qw3 qw2
          rw [← qw1] at t4
          exact ih  T220 h220 _ w2 w3 _ (ownUpd ar ct.toInt w1) X220 e220 N220 Z220 f221 f222 f223 F224 K225 (One.val rfl) t1 t2 t3 t4
      · refine OwnWp.step (U' := T211.setTop (mkF m 53 #[.val (.ref a1), .val (.ref ad202), .val (.int ct), .val (.ref tb), .val (.int nn), .val (.int i), s6] [])) (fun t k => ?_) ?_
        · show Steps p.tables e below (T211.setTop (mkF m 25 #[.val (.ref a1), .val (.ref ad202), .val (.int ct), .val (.ref tb), .val (.int nn), .val (.int i), s6] [(.int nn), (.int i)])) _
          refine XS.icmpYes X211.here hx rfl (pc0 := 25) (pc' := 53) rfl (hb hby d18_25) rfl (XT.ii_ge_t c25_218) (by decide) (by decide) ?_
          exact k
        have hlt : ¬ i.toInt < nn.toInt := by rw [Int32.lt_iff_toInt_lt] at c25_218; exact c25_218
        exact absurd hi (by omega)
  exact hloop nn.toInt.toNat T210 h202 _ (0 : Int32) (0 : Int32) _ (fun _ => (0 : Int32)) X210 e210 N0 Z202 f206 f207 f208 F209 K205 One.u (own_ta_start hI) (by decide) rfl (own_arr0 f _)
theorem d19_0 : decode prog_29_method_2_code 0 = .ok (.aload_n 0, 1) := by decide +kernel
theorem d19_1 : decode prog_29_method_2_code 1 = .ok (.getfield 17, 3) := by decide +kernel
theorem d19_4 : decode prog_29_method_2_code 4 = .ok (.ireturn, 1) := by decide +kernel
theorem pn_19 : plainFor (⟨"com/example/utu/utu/SlotNumbers", "size", "()I"⟩ : MethodName) = true := plainFor_of_name (by first | (simp [plainName, overriddenIn]; done) | decide +kernel)
theorem pd_19 : parseMethodDescriptor "()I" = some ⟨[], some .int⟩ := by decide +kernel
theorem ef_19 (m : MethodId) (x0 : Addr) : entryFrame m #[(.ref x0)] 1 = mkF m 0 #[.val (.ref x0)] [] := by first | (simp [entryFrame, mkF, argsToLocals, Value.category, maxLocals]; done) | rfl
def Q19 (Z : State) (a1 : Addr) (s0 : Int32) (h0 : Heap) (n0 : Nat) (v : Option Value) (h : Heap) (L : List Loc) : Prop := v = some (.int s0) ∧ Fr n0 L ∧ h = h0
set_option maxRecDepth 65536 in
set_option maxHeartbeats 40000000 in
theorem rm19 (l : Launch) (Z : State) (a0 : Array Value) (hw : ∀ d ∈ tables_1, d.before a0 Z = true) (ws : List Jvm.Cond) (a1 : Addr) (s0 : Int32) (h0 : Heap) (n0 : Nat) (Z0 : n0 ≤ h0.size) (F1 : Fld Z h0 a1 "com/example/utu/utu/SlotNumbers" "size" "I" (.int s0)) :
    MetFree l (⟨"com/example/utu/utu/SlotNumbers", "size", "()I"⟩ : MethodName) (head1 (Jvm.Cond.code (⟨"com/example/utu/utu/SlotNumbers", "size", "()I"⟩ : MethodName) prog_29_method_2_code 1 (some .int) :: ws) ({ frames := 0, cells := 0, slots := 0, locals := 0 } : Room)) (fun a U => a = #[(.ref a1)] ∧ Z.Warmed39 U.vm ∧ U.heap = h0) (fun _ _ _ _ _ => True) (fun _ U oc U' => ∃ v L, oc = .returned v ∧ Q19 Z a1 s0 h0 n0 v U'.heap L ∧ FrameEnd U oc U' L ({ frames := 0, cells := 0, slots := 0, locals := 0 } : Room).cells ({ frames := 0, cells := 0, slots := 0, locals := 0 } : Room).slots) := by
  refine MetFree.of_bodySF pn_19 hisR ?_
  intro p e s m args below meth c s₁ Bd hml0 hP hK
  obtain ⟨rfl, hZ, hh⟩ := hP
  have hx := Bd.exec
  have hby := Bd.bytes
  have hlk := BodyLoose.notSynchronized Bd
  have hml : c.maxLocals = 1 := hml0
  have hown : s.vm.findClass "com/example/utu/utu/SlotNumbers" = some m.cls := findClass_of_methodNamed Bd.named
  have hnm := (name_of_methodNamed Bd.named Bd.method).1
  have X0 : Stand p l e ({ frames := 0, cells := 0, slots := 0, locals := 0 } : Room) s m #[(.ref a1)] below meth c s₁ [] 0 0 := Stand.of_body Bd
  have e0 : s₁.heap = h0 := by rw [← hh, Bd.state]; rfl
  have N0 := Fr.nil n0
  show OwnWp p e below s ({ frames := 0, cells := 0, slots := 0, locals := 0 } : Room).cells ({ frames := 0, cells := 0, slots := 0, locals := 0 } : Room).slots (Q19 Z a1 s0 h0 n0) (s₁.setTop (entryFrame m #[(.ref a1)] 1))
  refine OwnWp.cast (ef_19 m a1) ?_
  show OwnWp p e below s _ _ _ (s₁.setTop (mkF m 0 #[.val (.ref a1)] []))
  refine OwnWp.step (U' := s₁.setTop (mkF m 1 #[.val (.ref a1)] [(.ref a1)])) (fun t k => ?_) ?_
  · show Steps p.tables e below (s₁.setTop (mkF m 0 #[.val (.ref a1)] [])) _
    refine XS.aloadN X0.here hx rfl (hb hby d19_0) rfl rfl ?_
    show Steps p.tables e below (s₁.setTop (mkF m 1 #[.val (.ref a1)] [(.ref a1)])) _
    exact k
  obtain ⟨T226, X226, e226, st226⟩ := getF X0 hx hZ hown (host := "") (Or.inl (hw _ (List.mem_of_getElem? (i := 39) rfl))) Via.refl e0 F1 (g := (mkF m 1 #[.val (.ref a1)] [(.ref a1)])) rfl rfl (hb hby d19_1)
  refine OwnWp.step st226 ?_
  show OwnWp p e below s _ _ _ (T226.setTop (mkF m 4 #[.val (.ref a1)] [(.int s0)]))
  refine OwnWp.retI X226 hx hlk Bd.returns (hb hby d19_4) (by decide) (by decide) ?_
  exact ⟨rfl, N0, e226⟩
def own_has_w1 (mm : Int32) (ar : Int → Int32) (p1 : Int32) : Int32 := (if (0 : Int32) < mm then (if (ar (0 : Int32).toInt) = p1 then (1 : Int32) else (if (1 : Int32) < mm then (if (ar (1 : Int32).toInt) = p1 then (1 : Int32) else (if (2 : Int32) < mm then (if (ar (2 : Int32).toInt) = p1 then (1 : Int32) else (if (3 : Int32) < mm then (if (ar (3 : Int32).toInt) = p1 then (1 : Int32) else (0 : Int32)) else (0 : Int32))) else (if (3 : Int32) < mm then (if (ar (3 : Int32).toInt) = p1 then (1 : Int32) else (0 : Int32)) else (0 : Int32)))) else (if (2 : Int32) < mm then (if (ar (2 : Int32).toInt) = p1 then (1 : Int32) else (if (3 : Int32) < mm then (if (ar (3 : Int32).toInt) = p1 then (1 : Int32) else (0 : Int32)) else (0 : Int32))) else (if (3 : Int32) < mm then (if (ar (3 : Int32).toInt) = p1 then (1 : Int32) else (0 : Int32)) else (0 : Int32))))) else (if (1 : Int32) < mm then (if (ar (1 : Int32).toInt) = p1 then (1 : Int32) else (if (2 : Int32) < mm then (if (ar (2 : Int32).toInt) = p1 then (1 : Int32) else (if (3 : Int32) < mm then (if (ar (3 : Int32).toInt) = p1 then (1 : Int32) else (0 : Int32)) else (0 : Int32))) else (if (3 : Int32) < mm then (if (ar (3 : Int32).toInt) = p1 then (1 : Int32) else (0 : Int32)) else (0 : Int32)))) else (if (2 : Int32) < mm then (if (ar (2 : Int32).toInt) = p1 then (1 : Int32) else (if (3 : Int32) < mm then (if (ar (3 : Int32).toInt) = p1 then (1 : Int32) else (0 : Int32)) else (0 : Int32))) else (if (3 : Int32) < mm then (if (ar (3 : Int32).toInt) = p1 then (1 : Int32) else (0 : Int32)) else (0 : Int32)))))
def own_has (mm : Int32) (ar : Int → Int32) (p1 : Int32) : Int32 := (own_has_w1 mm ar p1)
theorem d24_0 : decode method_4_code 0 = .ok (.aload_n 0, 1) := by decide +kernel
theorem d24_1 : decode method_4_code 1 = .ok (.arraylength, 1) := by decide +kernel
theorem d24_2 : decode method_4_code 2 = .ok (.istore_n 2, 1) := by decide +kernel
theorem d24_3 : decode method_4_code 3 = .ok (.iload_n 2, 1) := by decide +kernel
theorem d24_4 : decode method_4_code 4 = .ok (.ifCond .le 10, 3) := by decide +kernel
theorem d24_7 : decode method_4_code 7 = .ok (.aload_n 0, 1) := by decide +kernel
theorem d24_8 : decode method_4_code 8 = .ok (.iconst 0, 1) := by decide +kernel
theorem d24_9 : decode method_4_code 9 = .ok (.iaload, 1) := by decide +kernel
theorem d24_10 : decode method_4_code 10 = .ok (.iload_n 1, 1) := by decide +kernel
theorem d24_11 : decode method_4_code 11 = .ok (.if_icmp .eq 39, 3) := by decide +kernel
theorem d24_14 : decode method_4_code 14 = .ok (.iload_n 2, 1) := by decide +kernel
theorem d24_15 : decode method_4_code 15 = .ok (.iconst 1, 1) := by decide +kernel
theorem d24_16 : decode method_4_code 16 = .ok (.if_icmp .le 10, 3) := by decide +kernel
theorem d24_19 : decode method_4_code 19 = .ok (.aload_n 0, 1) := by decide +kernel
theorem d24_20 : decode method_4_code 20 = .ok (.iconst 1, 1) := by decide +kernel
theorem d24_21 : decode method_4_code 21 = .ok (.iaload, 1) := by decide +kernel
theorem d24_22 : decode method_4_code 22 = .ok (.iload_n 1, 1) := by decide +kernel
theorem d24_23 : decode method_4_code 23 = .ok (.if_icmp .eq 27, 3) := by decide +kernel
theorem d24_26 : decode method_4_code 26 = .ok (.iload_n 2, 1) := by decide +kernel
theorem d24_27 : decode method_4_code 27 = .ok (.iconst 2, 1) := by decide +kernel
theorem d24_28 : decode method_4_code 28 = .ok (.if_icmp .le 10, 3) := by decide +kernel
theorem d24_31 : decode method_4_code 31 = .ok (.aload_n 0, 1) := by decide +kernel
theorem d24_32 : decode method_4_code 32 = .ok (.iconst 2, 1) := by decide +kernel
theorem d24_33 : decode method_4_code 33 = .ok (.iaload, 1) := by decide +kernel
theorem d24_34 : decode method_4_code 34 = .ok (.iload_n 1, 1) := by decide +kernel
theorem d24_35 : decode method_4_code 35 = .ok (.if_icmp .eq 15, 3) := by decide +kernel
theorem d24_38 : decode method_4_code 38 = .ok (.iload_n 2, 1) := by decide +kernel
theorem d24_39 : decode method_4_code 39 = .ok (.iconst 3, 1) := by decide +kernel
theorem d24_40 : decode method_4_code 40 = .ok (.if_icmp .le 14, 3) := by decide +kernel
theorem d24_43 : decode method_4_code 43 = .ok (.aload_n 0, 1) := by decide +kernel
theorem d24_44 : decode method_4_code 44 = .ok (.iconst 3, 1) := by decide +kernel
theorem d24_45 : decode method_4_code 45 = .ok (.iaload, 1) := by decide +kernel
theorem d24_46 : decode method_4_code 46 = .ok (.iload_n 1, 1) := by decide +kernel
theorem d24_47 : decode method_4_code 47 = .ok (.if_icmp .ne 7, 3) := by decide +kernel
theorem d24_50 : decode method_4_code 50 = .ok (.iconst 1, 1) := by decide +kernel
theorem d24_51 : decode method_4_code 51 = .ok (.goto 4, 3) := by decide +kernel
theorem d24_54 : decode method_4_code 54 = .ok (.iconst 0, 1) := by decide +kernel
theorem d24_55 : decode method_4_code 55 = .ok (.ireturn, 1) := by decide +kernel
theorem pn_24 : plainFor (⟨"com/example/utu/utu/SlotNumbersToArrayPinLaw", "has", "([II)Z"⟩ : MethodName) = true := plainFor_of_name (by first | (simp [plainName, overriddenIn]; done) | decide +kernel)
theorem pd_24 : parseMethodDescriptor "([II)Z" = some ⟨[(.array .int), .int], some .boolean⟩ := by decide +kernel
theorem ef_24 (m : MethodId) (x0 : Addr) (x1 : Int32) : entryFrame m #[(.ref x0), (.int x1)] 3 = mkF m 0 #[.val (.ref x0), .val (.int x1), .unset] [] := by first | (simp [entryFrame, mkF, argsToLocals, Value.category, maxLocals]; done) | rfl
def Q24 (Z : State) (a1 : Addr) (p1 : Int32) (mm : Int32) (ar : Int → Int32) (h0 : Heap) (n0 : Nat) (v : Option Value) (h : Heap) (L : List Loc) : Prop := v = some (.int (own_has mm ar p1)) ∧ Fr n0 L ∧ h = h0
set_option maxRecDepth 65536 in
set_option maxHeartbeats 40000000 in
theorem rm24 (l : Launch) (Z : State) (a0 : Array Value) (hw : ∀ d ∈ tables_1, d.before a0 Z = true) (ws : List Jvm.Cond) (a1 : Addr) (p1 : Int32) (mm : Int32) (ar : Int → Int32) (h0 : Heap) (n0 : Nat) (Z0 : n0 ≤ h0.size) (A0 : OwnA Z h0 a1 .int mm (fun i => .int (ar i))) :
    MetFree l (⟨"com/example/utu/utu/SlotNumbersToArrayPinLaw", "has", "([II)Z"⟩ : MethodName) (head1 (Jvm.Cond.code (⟨"com/example/utu/utu/SlotNumbersToArrayPinLaw", "has", "([II)Z"⟩ : MethodName) method_4_code 3 (some .boolean) :: ws) ({ frames := 0, cells := 0, slots := 0, locals := 0 } : Room)) (fun a U => a = #[(.ref a1), (.int p1)] ∧ Z.Warmed39 U.vm ∧ U.heap = h0) (fun _ _ _ _ _ => True) (fun _ U oc U' => ∃ v L, oc = .returned v ∧ Q24 Z a1 p1 mm ar h0 n0 v U'.heap L ∧ FrameEnd U oc U' L ({ frames := 0, cells := 0, slots := 0, locals := 0 } : Room).cells ({ frames := 0, cells := 0, slots := 0, locals := 0 } : Room).slots) := by
  refine MetFree.of_bodySF pn_24 hisR ?_
  intro p e s m args below meth c s₁ Bd hml0 hP hK
  obtain ⟨rfl, hZ, hh⟩ := hP
  have hx := Bd.exec
  have hby := Bd.bytes
  have hlk := BodyLoose.notSynchronized Bd
  have hml : c.maxLocals = 3 := hml0
  have hown : s.vm.findClass "com/example/utu/utu/SlotNumbersToArrayPinLaw" = some m.cls := findClass_of_methodNamed Bd.named
  have hnm := (name_of_methodNamed Bd.named Bd.method).1
  have X0 : Stand p l e ({ frames := 0, cells := 0, slots := 0, locals := 0 } : Room) s m #[(.ref a1), (.int p1)] below meth c s₁ [] 0 0 := Stand.of_body Bd
  have e0 : s₁.heap = h0 := by rw [← hh, Bd.state]; rfl
  have N0 := Fr.nil n0
  show OwnWp p e below s ({ frames := 0, cells := 0, slots := 0, locals := 0 } : Room).cells ({ frames := 0, cells := 0, slots := 0, locals := 0 } : Room).slots (Q24 Z a1 p1 mm ar h0 n0) (s₁.setTop (entryFrame m #[(.ref a1), (.int p1)] 3))
  refine OwnWp.cast (ef_24 m a1 p1) ?_
  show OwnWp p e below s _ _ _ (s₁.setTop (mkF m 0 #[.val (.ref a1), .val (.int p1), .unset] []))
  refine OwnWp.step (U' := s₁.setTop (mkF m 4 #[.val (.ref a1), .val (.int p1), .val (.int mm)] [(.int mm)])) (fun t k => ?_) ?_
  · show Steps p.tables e below (s₁.setTop (mkF m 0 #[.val (.ref a1), .val (.int p1), .unset] [])) _
    refine XS.aloadN X0.here hx rfl (hb hby d24_0) rfl rfl ?_
    show Steps p.tables e below (s₁.setTop (mkF m 1 #[.val (.ref a1), .val (.int p1), .unset] [(.ref a1)])) _
    refine OwnA.alen X0 hx hZ e0 A0 rfl rfl (hb hby d24_1) ?_
    show Steps p.tables e below (s₁.setTop (mkF m 2 #[.val (.ref a1), .val (.int p1), .unset] [(.int mm)])) _
    refine XS.istoreN X0.here hx rfl (hb hby d24_2) rfl (l' := #[.val (.ref a1), .val (.int p1), .val (.int mm)]) rfl ?_
    show Steps p.tables e below (s₁.setTop (mkF m 3 #[.val (.ref a1), .val (.int p1), .val (.int mm)] [])) _
    refine XS.iloadN X0.here hx rfl (hb hby d24_3) rfl ?_
    show Steps p.tables e below (s₁.setTop (mkF m 4 #[.val (.ref a1), .val (.int p1), .val (.int mm)] [(.int mm)])) _
    exact k
  obtain ⟨w1, qw1⟩ : ∃ z : Int32, z = (if (0 : Int32) < mm then (if (ar (0 : Int32).toInt) = p1 then (1 : Int32) else (if (1 : Int32) < mm then (if (ar (1 : Int32).toInt) = p1 then (1 : Int32) else (if (2 : Int32) < mm then (if (ar (2 : Int32).toInt) = p1 then (1 : Int32) else (if (3 : Int32) < mm then (if (ar (3 : Int32).toInt) = p1 then (1 : Int32) else (0 : Int32)) else (0 : Int32))) else (if (3 : Int32) < mm then (if (ar (3 : Int32).toInt) = p1 then (1 : Int32) else (0 : Int32)) else (0 : Int32)))) else (if (2 : Int32) < mm then (if (ar (2 : Int32).toInt) = p1 then (1 : Int32) else (if (3 : Int32) < mm then (if (ar (3 : Int32).toInt) = p1 then (1 : Int32) else (0 : Int32)) else (0 : Int32))) else (if (3 : Int32) < mm then (if (ar (3 : Int32).toInt) = p1 then (1 : Int32) else (0 : Int32)) else (0 : Int32))))) else (if (1 : Int32) < mm then (if (ar (1 : Int32).toInt) = p1 then (1 : Int32) else (if (2 : Int32) < mm then (if (ar (2 : Int32).toInt) = p1 then (1 : Int32) else (if (3 : Int32) < mm then (if (ar (3 : Int32).toInt) = p1 then (1 : Int32) else (0 : Int32)) else (0 : Int32))) else (if (3 : Int32) < mm then (if (ar (3 : Int32).toInt) = p1 then (1 : Int32) else (0 : Int32)) else (0 : Int32)))) else (if (2 : Int32) < mm then (if (ar (2 : Int32).toInt) = p1 then (1 : Int32) else (if (3 : Int32) < mm then (if (ar (3 : Int32).toInt) = p1 then (1 : Int32) else (0 : Int32)) else (0 : Int32))) else (if (3 : Int32) < mm then (if (ar (3 : Int32).toInt) = p1 then (1 : Int32) else (0 : Int32)) else (0 : Int32))))) := ⟨_, rfl⟩
  refine OwnWp.step (U' := s₁.setTop (mkF m 55 #[.val (.ref a1), .val (.int p1), .val (.int mm)] [(.int w1)])) (fun t k => ?_) ?_
  · show Steps p.tables e below (s₁.setTop (mkF m 4 #[.val (.ref a1), .val (.int p1), .val (.int mm)] [(.int mm)])) _
    by_cases c4_227 : (0 : Int32) < mm
    · refine XS.ifNo X0.here hx rfl (hb hby d24_4) rfl (XT.i0_le_f c4_227) ?_
      show Steps p.tables e below (s₁.setTop (mkF m 7 #[.val (.ref a1), .val (.int p1), .val (.int mm)] [])) _
      refine XS.aloadN X0.here hx rfl (hb hby d24_7) rfl rfl ?_
      show Steps p.tables e below (s₁.setTop (mkF m 8 #[.val (.ref a1), .val (.int p1), .val (.int mm)] [(.ref a1)])) _
      refine XT.iconstV X0.here hx rfl (0 : Int32) (hb hby d24_8) rfl ?_
      show Steps p.tables e below (s₁.setTop (mkF m 9 #[.val (.ref a1), .val (.int p1), .val (.int mm)] [(.int (0 : Int32)), (.ref a1)])) _
      refine OwnA.ldI X0 hx hZ e0 A0 (by decide) (Int32.lt_iff_toInt_lt.mp (by assumption)) rfl rfl (hb hby d24_9) ?_
      show Steps p.tables e below (s₁.setTop (mkF m 10 #[.val (.ref a1), .val (.int p1), .val (.int mm)] [(.int (ar (0 : Int32).toInt))])) _
      refine XS.iloadN X0.here hx rfl (hb hby d24_10) rfl ?_
      show Steps p.tables e below (s₁.setTop (mkF m 11 #[.val (.ref a1), .val (.int p1), .val (.int mm)] [(.int p1), (.int (ar (0 : Int32).toInt))])) _
      by_cases c11_228 : (ar (0 : Int32).toInt) = p1
      · refine XS.icmpYes X0.here hx rfl (pc0 := 11) (pc' := 50) rfl (hb hby d24_11) rfl (XT.ii_eq_t c11_228) (by decide) (by decide) ?_
        show Steps p.tables e below (s₁.setTop (mkF m 50 #[.val (.ref a1), .val (.int p1), .val (.int mm)] [])) _
        refine XT.iconstV X0.here hx rfl (1 : Int32) (hb hby d24_50) rfl ?_
        show Steps p.tables e below (s₁.setTop (mkF m 51 #[.val (.ref a1), .val (.int p1), .val (.int mm)] [(.int (1 : Int32))])) _
        refine XS.goto X0.here hx rfl (pc0 := 51) (pc' := 55) rfl (hb hby d24_51) (by decide) (by decide) ?_
        show Steps p.tables e below (s₁.setTop (mkF m 55 #[.val (.ref a1), .val (.int p1), .val (.int mm)] [(.int (1 : Int32))])) _
        rw [show w1 = (1 : Int32) from by rw [qw1, if_pos c4_227, if_pos c11_228]] at k
        exact k
      · refine XS.icmpNo X0.here hx rfl (hb hby d24_11) rfl (XT.ii_eq_f c11_228) ?_
        show Steps p.tables e below (s₁.setTop (mkF m 14 #[.val (.ref a1), .val (.int p1), .val (.int mm)] [])) _
        refine XS.iloadN X0.here hx rfl (hb hby d24_14) rfl ?_
        show Steps p.tables e below (s₁.setTop (mkF m 15 #[.val (.ref a1), .val (.int p1), .val (.int mm)] [(.int mm)])) _
        refine XT.iconstV X0.here hx rfl (1 : Int32) (hb hby d24_15) rfl ?_
        show Steps p.tables e below (s₁.setTop (mkF m 16 #[.val (.ref a1), .val (.int p1), .val (.int mm)] [(.int (1 : Int32)), (.int mm)])) _
        by_cases c16_229 : (1 : Int32) < mm
        · refine XS.icmpNo X0.here hx rfl (hb hby d24_16) rfl (XT.ii_le_f c16_229) ?_
          show Steps p.tables e below (s₁.setTop (mkF m 19 #[.val (.ref a1), .val (.int p1), .val (.int mm)] [])) _
          refine XS.aloadN X0.here hx rfl (hb hby d24_19) rfl rfl ?_
          show Steps p.tables e below (s₁.setTop (mkF m 20 #[.val (.ref a1), .val (.int p1), .val (.int mm)] [(.ref a1)])) _
          refine XT.iconstV X0.here hx rfl (1 : Int32) (hb hby d24_20) rfl ?_
          show Steps p.tables e below (s₁.setTop (mkF m 21 #[.val (.ref a1), .val (.int p1), .val (.int mm)] [(.int (1 : Int32)), (.ref a1)])) _
          refine OwnA.ldI X0 hx hZ e0 A0 (by decide) (Int32.lt_iff_toInt_lt.mp (by assumption)) rfl rfl (hb hby d24_21) ?_
          show Steps p.tables e below (s₁.setTop (mkF m 22 #[.val (.ref a1), .val (.int p1), .val (.int mm)] [(.int (ar (1 : Int32).toInt))])) _
          refine XS.iloadN X0.here hx rfl (hb hby d24_22) rfl ?_
          show Steps p.tables e below (s₁.setTop (mkF m 23 #[.val (.ref a1), .val (.int p1), .val (.int mm)] [(.int p1), (.int (ar (1 : Int32).toInt))])) _
          by_cases c23_230 : (ar (1 : Int32).toInt) = p1
          · refine XS.icmpYes X0.here hx rfl (pc0 := 23) (pc' := 50) rfl (hb hby d24_23) rfl (XT.ii_eq_t c23_230) (by decide) (by decide) ?_
            show Steps p.tables e below (s₁.setTop (mkF m 50 #[.val (.ref a1), .val (.int p1), .val (.int mm)] [])) _
            refine XT.iconstV X0.here hx rfl (1 : Int32) (hb hby d24_50) rfl ?_
            show Steps p.tables e below (s₁.setTop (mkF m 51 #[.val (.ref a1), .val (.int p1), .val (.int mm)] [(.int (1 : Int32))])) _
            refine XS.goto X0.here hx rfl (pc0 := 51) (pc' := 55) rfl (hb hby d24_51) (by decide) (by decide) ?_
            show Steps p.tables e below (s₁.setTop (mkF m 55 #[.val (.ref a1), .val (.int p1), .val (.int mm)] [(.int (1 : Int32))])) _
            rw [show w1 = (1 : Int32) from by rw [qw1, if_pos c4_227, if_neg c11_228, if_pos c16_229, if_pos c23_230]] at k
            exact k
          · refine XS.icmpNo X0.here hx rfl (hb hby d24_23) rfl (XT.ii_eq_f c23_230) ?_
            show Steps p.tables e below (s₁.setTop (mkF m 26 #[.val (.ref a1), .val (.int p1), .val (.int mm)] [])) _
            refine XS.iloadN X0.here hx rfl (hb hby d24_26) rfl ?_
            show Steps p.tables e below (s₁.setTop (mkF m 27 #[.val (.ref a1), .val (.int p1), .val (.int mm)] [(.int mm)])) _
            refine XT.iconstV X0.here hx rfl (2 : Int32) (hb hby d24_27) rfl ?_
            show Steps p.tables e below (s₁.setTop (mkF m 28 #[.val (.ref a1), .val (.int p1), .val (.int mm)] [(.int (2 : Int32)), (.int mm)])) _
            by_cases c28_231 : (2 : Int32) < mm
            · refine XS.icmpNo X0.here hx rfl (hb hby d24_28) rfl (XT.ii_le_f c28_231) ?_
              show Steps p.tables e below (s₁.setTop (mkF m 31 #[.val (.ref a1), .val (.int p1), .val (.int mm)] [])) _
              refine XS.aloadN X0.here hx rfl (hb hby d24_31) rfl rfl ?_
              show Steps p.tables e below (s₁.setTop (mkF m 32 #[.val (.ref a1), .val (.int p1), .val (.int mm)] [(.ref a1)])) _
              refine XT.iconstV X0.here hx rfl (2 : Int32) (hb hby d24_32) rfl ?_
              show Steps p.tables e below (s₁.setTop (mkF m 33 #[.val (.ref a1), .val (.int p1), .val (.int mm)] [(.int (2 : Int32)), (.ref a1)])) _
              refine OwnA.ldI X0 hx hZ e0 A0 (by decide) (Int32.lt_iff_toInt_lt.mp (by assumption)) rfl rfl (hb hby d24_33) ?_
              show Steps p.tables e below (s₁.setTop (mkF m 34 #[.val (.ref a1), .val (.int p1), .val (.int mm)] [(.int (ar (2 : Int32).toInt))])) _
              refine XS.iloadN X0.here hx rfl (hb hby d24_34) rfl ?_
              show Steps p.tables e below (s₁.setTop (mkF m 35 #[.val (.ref a1), .val (.int p1), .val (.int mm)] [(.int p1), (.int (ar (2 : Int32).toInt))])) _
              by_cases c35_232 : (ar (2 : Int32).toInt) = p1
              · refine XS.icmpYes X0.here hx rfl (pc0 := 35) (pc' := 50) rfl (hb hby d24_35) rfl (XT.ii_eq_t c35_232) (by decide) (by decide) ?_
                show Steps p.tables e below (s₁.setTop (mkF m 50 #[.val (.ref a1), .val (.int p1), .val (.int mm)] [])) _
                refine XT.iconstV X0.here hx rfl (1 : Int32) (hb hby d24_50) rfl ?_
                show Steps p.tables e below (s₁.setTop (mkF m 51 #[.val (.ref a1), .val (.int p1), .val (.int mm)] [(.int (1 : Int32))])) _
                refine XS.goto X0.here hx rfl (pc0 := 51) (pc' := 55) rfl (hb hby d24_51) (by decide) (by decide) ?_
                show Steps p.tables e below (s₁.setTop (mkF m 55 #[.val (.ref a1), .val (.int p1), .val (.int mm)] [(.int (1 : Int32))])) _
                rw [show w1 = (1 : Int32) from by rw [qw1, if_pos c4_227, if_neg c11_228, if_pos c16_229, if_neg c23_230, if_pos c28_231, if_pos c35_232]] at k
                exact k
              · refine XS.icmpNo X0.here hx rfl (hb hby d24_35) rfl (XT.ii_eq_f c35_232) ?_
                show Steps p.tables e below (s₁.setTop (mkF m 38 #[.val (.ref a1), .val (.int p1), .val (.int mm)] [])) _
                refine XS.iloadN X0.here hx rfl (hb hby d24_38) rfl ?_
                show Steps p.tables e below (s₁.setTop (mkF m 39 #[.val (.ref a1), .val (.int p1), .val (.int mm)] [(.int mm)])) _
                refine XT.iconstV X0.here hx rfl (3 : Int32) (hb hby d24_39) rfl ?_
                show Steps p.tables e below (s₁.setTop (mkF m 40 #[.val (.ref a1), .val (.int p1), .val (.int mm)] [(.int (3 : Int32)), (.int mm)])) _
                by_cases c40_233 : (3 : Int32) < mm
                · refine XS.icmpNo X0.here hx rfl (hb hby d24_40) rfl (XT.ii_le_f c40_233) ?_
                  show Steps p.tables e below (s₁.setTop (mkF m 43 #[.val (.ref a1), .val (.int p1), .val (.int mm)] [])) _
                  refine XS.aloadN X0.here hx rfl (hb hby d24_43) rfl rfl ?_
                  show Steps p.tables e below (s₁.setTop (mkF m 44 #[.val (.ref a1), .val (.int p1), .val (.int mm)] [(.ref a1)])) _
                  refine XT.iconstV X0.here hx rfl (3 : Int32) (hb hby d24_44) rfl ?_
                  show Steps p.tables e below (s₁.setTop (mkF m 45 #[.val (.ref a1), .val (.int p1), .val (.int mm)] [(.int (3 : Int32)), (.ref a1)])) _
                  refine OwnA.ldI X0 hx hZ e0 A0 (by decide) (Int32.lt_iff_toInt_lt.mp (by assumption)) rfl rfl (hb hby d24_45) ?_
                  show Steps p.tables e below (s₁.setTop (mkF m 46 #[.val (.ref a1), .val (.int p1), .val (.int mm)] [(.int (ar (3 : Int32).toInt))])) _
                  refine XS.iloadN X0.here hx rfl (hb hby d24_46) rfl ?_
                  show Steps p.tables e below (s₁.setTop (mkF m 47 #[.val (.ref a1), .val (.int p1), .val (.int mm)] [(.int p1), (.int (ar (3 : Int32).toInt))])) _
                  by_cases c47_234 : (ar (3 : Int32).toInt) = p1
                  · refine XS.icmpNo X0.here hx rfl (hb hby d24_47) rfl (XT.ii_ne_f c47_234) ?_
                    show Steps p.tables e below (s₁.setTop (mkF m 50 #[.val (.ref a1), .val (.int p1), .val (.int mm)] [])) _
                    refine XT.iconstV X0.here hx rfl (1 : Int32) (hb hby d24_50) rfl ?_
                    show Steps p.tables e below (s₁.setTop (mkF m 51 #[.val (.ref a1), .val (.int p1), .val (.int mm)] [(.int (1 : Int32))])) _
                    refine XS.goto X0.here hx rfl (pc0 := 51) (pc' := 55) rfl (hb hby d24_51) (by decide) (by decide) ?_
                    show Steps p.tables e below (s₁.setTop (mkF m 55 #[.val (.ref a1), .val (.int p1), .val (.int mm)] [(.int (1 : Int32))])) _
                    rw [show w1 = (1 : Int32) from by rw [qw1, if_pos c4_227, if_neg c11_228, if_pos c16_229, if_neg c23_230, if_pos c28_231, if_neg c35_232, if_pos c40_233, if_pos c47_234]] at k
                    exact k
                  · refine XS.icmpYes X0.here hx rfl (pc0 := 47) (pc' := 54) rfl (hb hby d24_47) rfl (XT.ii_ne_t c47_234) (by decide) (by decide) ?_
                    show Steps p.tables e below (s₁.setTop (mkF m 54 #[.val (.ref a1), .val (.int p1), .val (.int mm)] [])) _
                    refine XT.iconstV X0.here hx rfl (0 : Int32) (hb hby d24_54) rfl ?_
                    show Steps p.tables e below (s₁.setTop (mkF m 55 #[.val (.ref a1), .val (.int p1), .val (.int mm)] [(.int (0 : Int32))])) _
                    rw [show w1 = (0 : Int32) from by rw [qw1, if_pos c4_227, if_neg c11_228, if_pos c16_229, if_neg c23_230, if_pos c28_231, if_neg c35_232, if_pos c40_233, if_neg c47_234]] at k
                    exact k
                · refine XS.icmpYes X0.here hx rfl (pc0 := 40) (pc' := 54) rfl (hb hby d24_40) rfl (XT.ii_le_t c40_233) (by decide) (by decide) ?_
                  show Steps p.tables e below (s₁.setTop (mkF m 54 #[.val (.ref a1), .val (.int p1), .val (.int mm)] [])) _
                  refine XT.iconstV X0.here hx rfl (0 : Int32) (hb hby d24_54) rfl ?_
                  show Steps p.tables e below (s₁.setTop (mkF m 55 #[.val (.ref a1), .val (.int p1), .val (.int mm)] [(.int (0 : Int32))])) _
                  rw [show w1 = (0 : Int32) from by rw [qw1, if_pos c4_227, if_neg c11_228, if_pos c16_229, if_neg c23_230, if_pos c28_231, if_neg c35_232, if_neg c40_233]] at k
                  exact k
            · refine XS.icmpYes X0.here hx rfl (pc0 := 28) (pc' := 38) rfl (hb hby d24_28) rfl (XT.ii_le_t c28_231) (by decide) (by decide) ?_
              show Steps p.tables e below (s₁.setTop (mkF m 38 #[.val (.ref a1), .val (.int p1), .val (.int mm)] [])) _
              refine XS.iloadN X0.here hx rfl (hb hby d24_38) rfl ?_
              show Steps p.tables e below (s₁.setTop (mkF m 39 #[.val (.ref a1), .val (.int p1), .val (.int mm)] [(.int mm)])) _
              refine XT.iconstV X0.here hx rfl (3 : Int32) (hb hby d24_39) rfl ?_
              show Steps p.tables e below (s₁.setTop (mkF m 40 #[.val (.ref a1), .val (.int p1), .val (.int mm)] [(.int (3 : Int32)), (.int mm)])) _
              by_cases c40_235 : (3 : Int32) < mm
              · refine XS.icmpNo X0.here hx rfl (hb hby d24_40) rfl (XT.ii_le_f c40_235) ?_
                show Steps p.tables e below (s₁.setTop (mkF m 43 #[.val (.ref a1), .val (.int p1), .val (.int mm)] [])) _
                refine XS.aloadN X0.here hx rfl (hb hby d24_43) rfl rfl ?_
                show Steps p.tables e below (s₁.setTop (mkF m 44 #[.val (.ref a1), .val (.int p1), .val (.int mm)] [(.ref a1)])) _
                refine XT.iconstV X0.here hx rfl (3 : Int32) (hb hby d24_44) rfl ?_
                show Steps p.tables e below (s₁.setTop (mkF m 45 #[.val (.ref a1), .val (.int p1), .val (.int mm)] [(.int (3 : Int32)), (.ref a1)])) _
                refine OwnA.ldI X0 hx hZ e0 A0 (by decide) (Int32.lt_iff_toInt_lt.mp (by assumption)) rfl rfl (hb hby d24_45) ?_
                show Steps p.tables e below (s₁.setTop (mkF m 46 #[.val (.ref a1), .val (.int p1), .val (.int mm)] [(.int (ar (3 : Int32).toInt))])) _
                refine XS.iloadN X0.here hx rfl (hb hby d24_46) rfl ?_
                show Steps p.tables e below (s₁.setTop (mkF m 47 #[.val (.ref a1), .val (.int p1), .val (.int mm)] [(.int p1), (.int (ar (3 : Int32).toInt))])) _
                by_cases c47_236 : (ar (3 : Int32).toInt) = p1
                · refine XS.icmpNo X0.here hx rfl (hb hby d24_47) rfl (XT.ii_ne_f c47_236) ?_
                  show Steps p.tables e below (s₁.setTop (mkF m 50 #[.val (.ref a1), .val (.int p1), .val (.int mm)] [])) _
                  refine XT.iconstV X0.here hx rfl (1 : Int32) (hb hby d24_50) rfl ?_
                  show Steps p.tables e below (s₁.setTop (mkF m 51 #[.val (.ref a1), .val (.int p1), .val (.int mm)] [(.int (1 : Int32))])) _
                  refine XS.goto X0.here hx rfl (pc0 := 51) (pc' := 55) rfl (hb hby d24_51) (by decide) (by decide) ?_
                  show Steps p.tables e below (s₁.setTop (mkF m 55 #[.val (.ref a1), .val (.int p1), .val (.int mm)] [(.int (1 : Int32))])) _
                  rw [show w1 = (1 : Int32) from by rw [qw1, if_pos c4_227, if_neg c11_228, if_pos c16_229, if_neg c23_230, if_neg c28_231, if_pos c40_235, if_pos c47_236]] at k
                  exact k
                · refine XS.icmpYes X0.here hx rfl (pc0 := 47) (pc' := 54) rfl (hb hby d24_47) rfl (XT.ii_ne_t c47_236) (by decide) (by decide) ?_
                  show Steps p.tables e below (s₁.setTop (mkF m 54 #[.val (.ref a1), .val (.int p1), .val (.int mm)] [])) _
                  refine XT.iconstV X0.here hx rfl (0 : Int32) (hb hby d24_54) rfl ?_
                  show Steps p.tables e below (s₁.setTop (mkF m 55 #[.val (.ref a1), .val (.int p1), .val (.int mm)] [(.int (0 : Int32))])) _
                  rw [show w1 = (0 : Int32) from by rw [qw1, if_pos c4_227, if_neg c11_228, if_pos c16_229, if_neg c23_230, if_neg c28_231, if_pos c40_235, if_neg c47_236]] at k
                  exact k
              · refine XS.icmpYes X0.here hx rfl (pc0 := 40) (pc' := 54) rfl (hb hby d24_40) rfl (XT.ii_le_t c40_235) (by decide) (by decide) ?_
                show Steps p.tables e below (s₁.setTop (mkF m 54 #[.val (.ref a1), .val (.int p1), .val (.int mm)] [])) _
                refine XT.iconstV X0.here hx rfl (0 : Int32) (hb hby d24_54) rfl ?_
                show Steps p.tables e below (s₁.setTop (mkF m 55 #[.val (.ref a1), .val (.int p1), .val (.int mm)] [(.int (0 : Int32))])) _
                rw [show w1 = (0 : Int32) from by rw [qw1, if_pos c4_227, if_neg c11_228, if_pos c16_229, if_neg c23_230, if_neg c28_231, if_neg c40_235]] at k
                exact k
        · refine XS.icmpYes X0.here hx rfl (pc0 := 16) (pc' := 26) rfl (hb hby d24_16) rfl (XT.ii_le_t c16_229) (by decide) (by decide) ?_
          show Steps p.tables e below (s₁.setTop (mkF m 26 #[.val (.ref a1), .val (.int p1), .val (.int mm)] [])) _
          refine XS.iloadN X0.here hx rfl (hb hby d24_26) rfl ?_
          show Steps p.tables e below (s₁.setTop (mkF m 27 #[.val (.ref a1), .val (.int p1), .val (.int mm)] [(.int mm)])) _
          refine XT.iconstV X0.here hx rfl (2 : Int32) (hb hby d24_27) rfl ?_
          show Steps p.tables e below (s₁.setTop (mkF m 28 #[.val (.ref a1), .val (.int p1), .val (.int mm)] [(.int (2 : Int32)), (.int mm)])) _
          by_cases c28_237 : (2 : Int32) < mm
          · refine XS.icmpNo X0.here hx rfl (hb hby d24_28) rfl (XT.ii_le_f c28_237) ?_
            show Steps p.tables e below (s₁.setTop (mkF m 31 #[.val (.ref a1), .val (.int p1), .val (.int mm)] [])) _
            refine XS.aloadN X0.here hx rfl (hb hby d24_31) rfl rfl ?_
            show Steps p.tables e below (s₁.setTop (mkF m 32 #[.val (.ref a1), .val (.int p1), .val (.int mm)] [(.ref a1)])) _
            refine XT.iconstV X0.here hx rfl (2 : Int32) (hb hby d24_32) rfl ?_
            show Steps p.tables e below (s₁.setTop (mkF m 33 #[.val (.ref a1), .val (.int p1), .val (.int mm)] [(.int (2 : Int32)), (.ref a1)])) _
            refine OwnA.ldI X0 hx hZ e0 A0 (by decide) (Int32.lt_iff_toInt_lt.mp (by assumption)) rfl rfl (hb hby d24_33) ?_
            show Steps p.tables e below (s₁.setTop (mkF m 34 #[.val (.ref a1), .val (.int p1), .val (.int mm)] [(.int (ar (2 : Int32).toInt))])) _
            refine XS.iloadN X0.here hx rfl (hb hby d24_34) rfl ?_
            show Steps p.tables e below (s₁.setTop (mkF m 35 #[.val (.ref a1), .val (.int p1), .val (.int mm)] [(.int p1), (.int (ar (2 : Int32).toInt))])) _
            by_cases c35_238 : (ar (2 : Int32).toInt) = p1
            · refine XS.icmpYes X0.here hx rfl (pc0 := 35) (pc' := 50) rfl (hb hby d24_35) rfl (XT.ii_eq_t c35_238) (by decide) (by decide) ?_
              show Steps p.tables e below (s₁.setTop (mkF m 50 #[.val (.ref a1), .val (.int p1), .val (.int mm)] [])) _
              refine XT.iconstV X0.here hx rfl (1 : Int32) (hb hby d24_50) rfl ?_
              show Steps p.tables e below (s₁.setTop (mkF m 51 #[.val (.ref a1), .val (.int p1), .val (.int mm)] [(.int (1 : Int32))])) _
              refine XS.goto X0.here hx rfl (pc0 := 51) (pc' := 55) rfl (hb hby d24_51) (by decide) (by decide) ?_
              show Steps p.tables e below (s₁.setTop (mkF m 55 #[.val (.ref a1), .val (.int p1), .val (.int mm)] [(.int (1 : Int32))])) _
              rw [show w1 = (1 : Int32) from by rw [qw1, if_pos c4_227, if_neg c11_228, if_neg c16_229, if_pos c28_237, if_pos c35_238]] at k
              exact k
            · refine XS.icmpNo X0.here hx rfl (hb hby d24_35) rfl (XT.ii_eq_f c35_238) ?_
              show Steps p.tables e below (s₁.setTop (mkF m 38 #[.val (.ref a1), .val (.int p1), .val (.int mm)] [])) _
              refine XS.iloadN X0.here hx rfl (hb hby d24_38) rfl ?_
              show Steps p.tables e below (s₁.setTop (mkF m 39 #[.val (.ref a1), .val (.int p1), .val (.int mm)] [(.int mm)])) _
              refine XT.iconstV X0.here hx rfl (3 : Int32) (hb hby d24_39) rfl ?_
              show Steps p.tables e below (s₁.setTop (mkF m 40 #[.val (.ref a1), .val (.int p1), .val (.int mm)] [(.int (3 : Int32)), (.int mm)])) _
              by_cases c40_239 : (3 : Int32) < mm
              · refine XS.icmpNo X0.here hx rfl (hb hby d24_40) rfl (XT.ii_le_f c40_239) ?_
                show Steps p.tables e below (s₁.setTop (mkF m 43 #[.val (.ref a1), .val (.int p1), .val (.int mm)] [])) _
                refine XS.aloadN X0.here hx rfl (hb hby d24_43) rfl rfl ?_
                show Steps p.tables e below (s₁.setTop (mkF m 44 #[.val (.ref a1), .val (.int p1), .val (.int mm)] [(.ref a1)])) _
                refine XT.iconstV X0.here hx rfl (3 : Int32) (hb hby d24_44) rfl ?_
                show Steps p.tables e below (s₁.setTop (mkF m 45 #[.val (.ref a1), .val (.int p1), .val (.int mm)] [(.int (3 : Int32)), (.ref a1)])) _
                refine OwnA.ldI X0 hx hZ e0 A0 (by decide) (Int32.lt_iff_toInt_lt.mp (by assumption)) rfl rfl (hb hby d24_45) ?_
                show Steps p.tables e below (s₁.setTop (mkF m 46 #[.val (.ref a1), .val (.int p1), .val (.int mm)] [(.int (ar (3 : Int32).toInt))])) _
                refine XS.iloadN X0.here hx rfl (hb hby d24_46) rfl ?_
                show Steps p.tables e below (s₁.setTop (mkF m 47 #[.val (.ref a1), .val (.int p1), .val (.int mm)] [(.int p1), (.int (ar (3 : Int32).toInt))])) _
                by_cases c47_240 : (ar (3 : Int32).toInt) = p1
                · refine XS.icmpNo X0.here hx rfl (hb hby d24_47) rfl (XT.ii_ne_f c47_240) ?_
                  show Steps p.tables e below (s₁.setTop (mkF m 50 #[.val (.ref a1), .val (.int p1), .val (.int mm)] [])) _
                  refine XT.iconstV X0.here hx rfl (1 : Int32) (hb hby d24_50) rfl ?_
                  show Steps p.tables e below (s₁.setTop (mkF m 51 #[.val (.ref a1), .val (.int p1), .val (.int mm)] [(.int (1 : Int32))])) _
                  refine XS.goto X0.here hx rfl (pc0 := 51) (pc' := 55) rfl (hb hby d24_51) (by decide) (by decide) ?_
                  show Steps p.tables e below (s₁.setTop (mkF m 55 #[.val (.ref a1), .val (.int p1), .val (.int mm)] [(.int (1 : Int32))])) _
                  rw [show w1 = (1 : Int32) from by rw [qw1, if_pos c4_227, if_neg c11_228, if_neg c16_229, if_pos c28_237, if_neg c35_238, if_pos c40_239, if_pos c47_240]] at k
                  exact k
                · refine XS.icmpYes X0.here hx rfl (pc0 := 47) (pc' := 54) rfl (hb hby d24_47) rfl (XT.ii_ne_t c47_240) (by decide) (by decide) ?_
                  show Steps p.tables e below (s₁.setTop (mkF m 54 #[.val (.ref a1), .val (.int p1), .val (.int mm)] [])) _
                  refine XT.iconstV X0.here hx rfl (0 : Int32) (hb hby d24_54) rfl ?_
                  show Steps p.tables e below (s₁.setTop (mkF m 55 #[.val (.ref a1), .val (.int p1), .val (.int mm)] [(.int (0 : Int32))])) _
                  rw [show w1 = (0 : Int32) from by rw [qw1, if_pos c4_227, if_neg c11_228, if_neg c16_229, if_pos c28_237, if_neg c35_238, if_pos c40_239, if_neg c47_240]] at k
                  exact k
              · refine XS.icmpYes X0.here hx rfl (pc0 := 40) (pc' := 54) rfl (hb hby d24_40) rfl (XT.ii_le_t c40_239) (by decide) (by decide) ?_
                show Steps p.tables e below (s₁.setTop (mkF m 54 #[.val (.ref a1), .val (.int p1), .val (.int mm)] [])) _
                refine XT.iconstV X0.here hx rfl (0 : Int32) (hb hby d24_54) rfl ?_
                show Steps p.tables e below (s₁.setTop (mkF m 55 #[.val (.ref a1), .val (.int p1), .val (.int mm)] [(.int (0 : Int32))])) _
                rw [show w1 = (0 : Int32) from by rw [qw1, if_pos c4_227, if_neg c11_228, if_neg c16_229, if_pos c28_237, if_neg c35_238, if_neg c40_239]] at k
                exact k
          · refine XS.icmpYes X0.here hx rfl (pc0 := 28) (pc' := 38) rfl (hb hby d24_28) rfl (XT.ii_le_t c28_237) (by decide) (by decide) ?_
            show Steps p.tables e below (s₁.setTop (mkF m 38 #[.val (.ref a1), .val (.int p1), .val (.int mm)] [])) _
            refine XS.iloadN X0.here hx rfl (hb hby d24_38) rfl ?_
            show Steps p.tables e below (s₁.setTop (mkF m 39 #[.val (.ref a1), .val (.int p1), .val (.int mm)] [(.int mm)])) _
            refine XT.iconstV X0.here hx rfl (3 : Int32) (hb hby d24_39) rfl ?_
            show Steps p.tables e below (s₁.setTop (mkF m 40 #[.val (.ref a1), .val (.int p1), .val (.int mm)] [(.int (3 : Int32)), (.int mm)])) _
            by_cases c40_241 : (3 : Int32) < mm
            · refine XS.icmpNo X0.here hx rfl (hb hby d24_40) rfl (XT.ii_le_f c40_241) ?_
              show Steps p.tables e below (s₁.setTop (mkF m 43 #[.val (.ref a1), .val (.int p1), .val (.int mm)] [])) _
              refine XS.aloadN X0.here hx rfl (hb hby d24_43) rfl rfl ?_
              show Steps p.tables e below (s₁.setTop (mkF m 44 #[.val (.ref a1), .val (.int p1), .val (.int mm)] [(.ref a1)])) _
              refine XT.iconstV X0.here hx rfl (3 : Int32) (hb hby d24_44) rfl ?_
              show Steps p.tables e below (s₁.setTop (mkF m 45 #[.val (.ref a1), .val (.int p1), .val (.int mm)] [(.int (3 : Int32)), (.ref a1)])) _
              refine OwnA.ldI X0 hx hZ e0 A0 (by decide) (Int32.lt_iff_toInt_lt.mp (by assumption)) rfl rfl (hb hby d24_45) ?_
              show Steps p.tables e below (s₁.setTop (mkF m 46 #[.val (.ref a1), .val (.int p1), .val (.int mm)] [(.int (ar (3 : Int32).toInt))])) _
              refine XS.iloadN X0.here hx rfl (hb hby d24_46) rfl ?_
              show Steps p.tables e below (s₁.setTop (mkF m 47 #[.val (.ref a1), .val (.int p1), .val (.int mm)] [(.int p1), (.int (ar (3 : Int32).toInt))])) _
              by_cases c47_242 : (ar (3 : Int32).toInt) = p1
              · refine XS.icmpNo X0.here hx rfl (hb hby d24_47) rfl (XT.ii_ne_f c47_242) ?_
                show Steps p.tables e below (s₁.setTop (mkF m 50 #[.val (.ref a1), .val (.int p1), .val (.int mm)] [])) _
                refine XT.iconstV X0.here hx rfl (1 : Int32) (hb hby d24_50) rfl ?_
                show Steps p.tables e below (s₁.setTop (mkF m 51 #[.val (.ref a1), .val (.int p1), .val (.int mm)] [(.int (1 : Int32))])) _
                refine XS.goto X0.here hx rfl (pc0 := 51) (pc' := 55) rfl (hb hby d24_51) (by decide) (by decide) ?_
                show Steps p.tables e below (s₁.setTop (mkF m 55 #[.val (.ref a1), .val (.int p1), .val (.int mm)] [(.int (1 : Int32))])) _
                rw [show w1 = (1 : Int32) from by rw [qw1, if_pos c4_227, if_neg c11_228, if_neg c16_229, if_neg c28_237, if_pos c40_241, if_pos c47_242]] at k
                exact k
              · refine XS.icmpYes X0.here hx rfl (pc0 := 47) (pc' := 54) rfl (hb hby d24_47) rfl (XT.ii_ne_t c47_242) (by decide) (by decide) ?_
                show Steps p.tables e below (s₁.setTop (mkF m 54 #[.val (.ref a1), .val (.int p1), .val (.int mm)] [])) _
                refine XT.iconstV X0.here hx rfl (0 : Int32) (hb hby d24_54) rfl ?_
                show Steps p.tables e below (s₁.setTop (mkF m 55 #[.val (.ref a1), .val (.int p1), .val (.int mm)] [(.int (0 : Int32))])) _
                rw [show w1 = (0 : Int32) from by rw [qw1, if_pos c4_227, if_neg c11_228, if_neg c16_229, if_neg c28_237, if_pos c40_241, if_neg c47_242]] at k
                exact k
            · refine XS.icmpYes X0.here hx rfl (pc0 := 40) (pc' := 54) rfl (hb hby d24_40) rfl (XT.ii_le_t c40_241) (by decide) (by decide) ?_
              show Steps p.tables e below (s₁.setTop (mkF m 54 #[.val (.ref a1), .val (.int p1), .val (.int mm)] [])) _
              refine XT.iconstV X0.here hx rfl (0 : Int32) (hb hby d24_54) rfl ?_
              show Steps p.tables e below (s₁.setTop (mkF m 55 #[.val (.ref a1), .val (.int p1), .val (.int mm)] [(.int (0 : Int32))])) _
              rw [show w1 = (0 : Int32) from by rw [qw1, if_pos c4_227, if_neg c11_228, if_neg c16_229, if_neg c28_237, if_neg c40_241]] at k
              exact k
    · refine XS.ifYes X0.here hx rfl (pc0 := 4) (pc' := 14) rfl (hb hby d24_4) rfl (XT.i0_le_t c4_227) (by decide) (by decide) ?_
      show Steps p.tables e below (s₁.setTop (mkF m 14 #[.val (.ref a1), .val (.int p1), .val (.int mm)] [])) _
      refine XS.iloadN X0.here hx rfl (hb hby d24_14) rfl ?_
      show Steps p.tables e below (s₁.setTop (mkF m 15 #[.val (.ref a1), .val (.int p1), .val (.int mm)] [(.int mm)])) _
      refine XT.iconstV X0.here hx rfl (1 : Int32) (hb hby d24_15) rfl ?_
      show Steps p.tables e below (s₁.setTop (mkF m 16 #[.val (.ref a1), .val (.int p1), .val (.int mm)] [(.int (1 : Int32)), (.int mm)])) _
      by_cases c16_243 : (1 : Int32) < mm
      · refine XS.icmpNo X0.here hx rfl (hb hby d24_16) rfl (XT.ii_le_f c16_243) ?_
        show Steps p.tables e below (s₁.setTop (mkF m 19 #[.val (.ref a1), .val (.int p1), .val (.int mm)] [])) _
        refine XS.aloadN X0.here hx rfl (hb hby d24_19) rfl rfl ?_
        show Steps p.tables e below (s₁.setTop (mkF m 20 #[.val (.ref a1), .val (.int p1), .val (.int mm)] [(.ref a1)])) _
        refine XT.iconstV X0.here hx rfl (1 : Int32) (hb hby d24_20) rfl ?_
        show Steps p.tables e below (s₁.setTop (mkF m 21 #[.val (.ref a1), .val (.int p1), .val (.int mm)] [(.int (1 : Int32)), (.ref a1)])) _
        refine OwnA.ldI X0 hx hZ e0 A0 (by decide) (Int32.lt_iff_toInt_lt.mp (by assumption)) rfl rfl (hb hby d24_21) ?_
        show Steps p.tables e below (s₁.setTop (mkF m 22 #[.val (.ref a1), .val (.int p1), .val (.int mm)] [(.int (ar (1 : Int32).toInt))])) _
        refine XS.iloadN X0.here hx rfl (hb hby d24_22) rfl ?_
        show Steps p.tables e below (s₁.setTop (mkF m 23 #[.val (.ref a1), .val (.int p1), .val (.int mm)] [(.int p1), (.int (ar (1 : Int32).toInt))])) _
        by_cases c23_244 : (ar (1 : Int32).toInt) = p1
        · refine XS.icmpYes X0.here hx rfl (pc0 := 23) (pc' := 50) rfl (hb hby d24_23) rfl (XT.ii_eq_t c23_244) (by decide) (by decide) ?_
          show Steps p.tables e below (s₁.setTop (mkF m 50 #[.val (.ref a1), .val (.int p1), .val (.int mm)] [])) _
          refine XT.iconstV X0.here hx rfl (1 : Int32) (hb hby d24_50) rfl ?_
          show Steps p.tables e below (s₁.setTop (mkF m 51 #[.val (.ref a1), .val (.int p1), .val (.int mm)] [(.int (1 : Int32))])) _
          refine XS.goto X0.here hx rfl (pc0 := 51) (pc' := 55) rfl (hb hby d24_51) (by decide) (by decide) ?_
          show Steps p.tables e below (s₁.setTop (mkF m 55 #[.val (.ref a1), .val (.int p1), .val (.int mm)] [(.int (1 : Int32))])) _
          rw [show w1 = (1 : Int32) from by rw [qw1, if_neg c4_227, if_pos c16_243, if_pos c23_244]] at k
          exact k
        · refine XS.icmpNo X0.here hx rfl (hb hby d24_23) rfl (XT.ii_eq_f c23_244) ?_
          show Steps p.tables e below (s₁.setTop (mkF m 26 #[.val (.ref a1), .val (.int p1), .val (.int mm)] [])) _
          refine XS.iloadN X0.here hx rfl (hb hby d24_26) rfl ?_
          show Steps p.tables e below (s₁.setTop (mkF m 27 #[.val (.ref a1), .val (.int p1), .val (.int mm)] [(.int mm)])) _
          refine XT.iconstV X0.here hx rfl (2 : Int32) (hb hby d24_27) rfl ?_
          show Steps p.tables e below (s₁.setTop (mkF m 28 #[.val (.ref a1), .val (.int p1), .val (.int mm)] [(.int (2 : Int32)), (.int mm)])) _
          by_cases c28_245 : (2 : Int32) < mm
          · refine XS.icmpNo X0.here hx rfl (hb hby d24_28) rfl (XT.ii_le_f c28_245) ?_
            show Steps p.tables e below (s₁.setTop (mkF m 31 #[.val (.ref a1), .val (.int p1), .val (.int mm)] [])) _
            refine XS.aloadN X0.here hx rfl (hb hby d24_31) rfl rfl ?_
            show Steps p.tables e below (s₁.setTop (mkF m 32 #[.val (.ref a1), .val (.int p1), .val (.int mm)] [(.ref a1)])) _
            refine XT.iconstV X0.here hx rfl (2 : Int32) (hb hby d24_32) rfl ?_
            show Steps p.tables e below (s₁.setTop (mkF m 33 #[.val (.ref a1), .val (.int p1), .val (.int mm)] [(.int (2 : Int32)), (.ref a1)])) _
            refine OwnA.ldI X0 hx hZ e0 A0 (by decide) (Int32.lt_iff_toInt_lt.mp (by assumption)) rfl rfl (hb hby d24_33) ?_
            show Steps p.tables e below (s₁.setTop (mkF m 34 #[.val (.ref a1), .val (.int p1), .val (.int mm)] [(.int (ar (2 : Int32).toInt))])) _
            refine XS.iloadN X0.here hx rfl (hb hby d24_34) rfl ?_
            show Steps p.tables e below (s₁.setTop (mkF m 35 #[.val (.ref a1), .val (.int p1), .val (.int mm)] [(.int p1), (.int (ar (2 : Int32).toInt))])) _
            by_cases c35_246 : (ar (2 : Int32).toInt) = p1
            · refine XS.icmpYes X0.here hx rfl (pc0 := 35) (pc' := 50) rfl (hb hby d24_35) rfl (XT.ii_eq_t c35_246) (by decide) (by decide) ?_
              show Steps p.tables e below (s₁.setTop (mkF m 50 #[.val (.ref a1), .val (.int p1), .val (.int mm)] [])) _
              refine XT.iconstV X0.here hx rfl (1 : Int32) (hb hby d24_50) rfl ?_
              show Steps p.tables e below (s₁.setTop (mkF m 51 #[.val (.ref a1), .val (.int p1), .val (.int mm)] [(.int (1 : Int32))])) _
              refine XS.goto X0.here hx rfl (pc0 := 51) (pc' := 55) rfl (hb hby d24_51) (by decide) (by decide) ?_
              show Steps p.tables e below (s₁.setTop (mkF m 55 #[.val (.ref a1), .val (.int p1), .val (.int mm)] [(.int (1 : Int32))])) _
              rw [show w1 = (1 : Int32) from by rw [qw1, if_neg c4_227, if_pos c16_243, if_neg c23_244, if_pos c28_245, if_pos c35_246]] at k
              exact k
            · refine XS.icmpNo X0.here hx rfl (hb hby d24_35) rfl (XT.ii_eq_f c35_246) ?_
              show Steps p.tables e below (s₁.setTop (mkF m 38 #[.val (.ref a1), .val (.int p1), .val (.int mm)] [])) _
              refine XS.iloadN X0.here hx rfl (hb hby d24_38) rfl ?_
              show Steps p.tables e below (s₁.setTop (mkF m 39 #[.val (.ref a1), .val (.int p1), .val (.int mm)] [(.int mm)])) _
              refine XT.iconstV X0.here hx rfl (3 : Int32) (hb hby d24_39) rfl ?_
              show Steps p.tables e below (s₁.setTop (mkF m 40 #[.val (.ref a1), .val (.int p1), .val (.int mm)] [(.int (3 : Int32)), (.int mm)])) _
              by_cases c40_247 : (3 : Int32) < mm
              · refine XS.icmpNo X0.here hx rfl (hb hby d24_40) rfl (XT.ii_le_f c40_247) ?_
                show Steps p.tables e below (s₁.setTop (mkF m 43 #[.val (.ref a1), .val (.int p1), .val (.int mm)] [])) _
                refine XS.aloadN X0.here hx rfl (hb hby d24_43) rfl rfl ?_
                show Steps p.tables e below (s₁.setTop (mkF m 44 #[.val (.ref a1), .val (.int p1), .val (.int mm)] [(.ref a1)])) _
                refine XT.iconstV X0.here hx rfl (3 : Int32) (hb hby d24_44) rfl ?_
                show Steps p.tables e below (s₁.setTop (mkF m 45 #[.val (.ref a1), .val (.int p1), .val (.int mm)] [(.int (3 : Int32)), (.ref a1)])) _
                refine OwnA.ldI X0 hx hZ e0 A0 (by decide) (Int32.lt_iff_toInt_lt.mp (by assumption)) rfl rfl (hb hby d24_45) ?_
                show Steps p.tables e below (s₁.setTop (mkF m 46 #[.val (.ref a1), .val (.int p1), .val (.int mm)] [(.int (ar (3 : Int32).toInt))])) _
                refine XS.iloadN X0.here hx rfl (hb hby d24_46) rfl ?_
                show Steps p.tables e below (s₁.setTop (mkF m 47 #[.val (.ref a1), .val (.int p1), .val (.int mm)] [(.int p1), (.int (ar (3 : Int32).toInt))])) _
                by_cases c47_248 : (ar (3 : Int32).toInt) = p1
                · refine XS.icmpNo X0.here hx rfl (hb hby d24_47) rfl (XT.ii_ne_f c47_248) ?_
                  show Steps p.tables e below (s₁.setTop (mkF m 50 #[.val (.ref a1), .val (.int p1), .val (.int mm)] [])) _
                  refine XT.iconstV X0.here hx rfl (1 : Int32) (hb hby d24_50) rfl ?_
                  show Steps p.tables e below (s₁.setTop (mkF m 51 #[.val (.ref a1), .val (.int p1), .val (.int mm)] [(.int (1 : Int32))])) _
                  refine XS.goto X0.here hx rfl (pc0 := 51) (pc' := 55) rfl (hb hby d24_51) (by decide) (by decide) ?_
                  show Steps p.tables e below (s₁.setTop (mkF m 55 #[.val (.ref a1), .val (.int p1), .val (.int mm)] [(.int (1 : Int32))])) _
                  rw [show w1 = (1 : Int32) from by rw [qw1, if_neg c4_227, if_pos c16_243, if_neg c23_244, if_pos c28_245, if_neg c35_246, if_pos c40_247, if_pos c47_248]] at k
                  exact k
                · refine XS.icmpYes X0.here hx rfl (pc0 := 47) (pc' := 54) rfl (hb hby d24_47) rfl (XT.ii_ne_t c47_248) (by decide) (by decide) ?_
                  show Steps p.tables e below (s₁.setTop (mkF m 54 #[.val (.ref a1), .val (.int p1), .val (.int mm)] [])) _
                  refine XT.iconstV X0.here hx rfl (0 : Int32) (hb hby d24_54) rfl ?_
                  show Steps p.tables e below (s₁.setTop (mkF m 55 #[.val (.ref a1), .val (.int p1), .val (.int mm)] [(.int (0 : Int32))])) _
                  rw [show w1 = (0 : Int32) from by rw [qw1, if_neg c4_227, if_pos c16_243, if_neg c23_244, if_pos c28_245, if_neg c35_246, if_pos c40_247, if_neg c47_248]] at k
                  exact k
              · refine XS.icmpYes X0.here hx rfl (pc0 := 40) (pc' := 54) rfl (hb hby d24_40) rfl (XT.ii_le_t c40_247) (by decide) (by decide) ?_
                show Steps p.tables e below (s₁.setTop (mkF m 54 #[.val (.ref a1), .val (.int p1), .val (.int mm)] [])) _
                refine XT.iconstV X0.here hx rfl (0 : Int32) (hb hby d24_54) rfl ?_
                show Steps p.tables e below (s₁.setTop (mkF m 55 #[.val (.ref a1), .val (.int p1), .val (.int mm)] [(.int (0 : Int32))])) _
                rw [show w1 = (0 : Int32) from by rw [qw1, if_neg c4_227, if_pos c16_243, if_neg c23_244, if_pos c28_245, if_neg c35_246, if_neg c40_247]] at k
                exact k
          · refine XS.icmpYes X0.here hx rfl (pc0 := 28) (pc' := 38) rfl (hb hby d24_28) rfl (XT.ii_le_t c28_245) (by decide) (by decide) ?_
            show Steps p.tables e below (s₁.setTop (mkF m 38 #[.val (.ref a1), .val (.int p1), .val (.int mm)] [])) _
            refine XS.iloadN X0.here hx rfl (hb hby d24_38) rfl ?_
            show Steps p.tables e below (s₁.setTop (mkF m 39 #[.val (.ref a1), .val (.int p1), .val (.int mm)] [(.int mm)])) _
            refine XT.iconstV X0.here hx rfl (3 : Int32) (hb hby d24_39) rfl ?_
            show Steps p.tables e below (s₁.setTop (mkF m 40 #[.val (.ref a1), .val (.int p1), .val (.int mm)] [(.int (3 : Int32)), (.int mm)])) _
            by_cases c40_249 : (3 : Int32) < mm
            · refine XS.icmpNo X0.here hx rfl (hb hby d24_40) rfl (XT.ii_le_f c40_249) ?_
              show Steps p.tables e below (s₁.setTop (mkF m 43 #[.val (.ref a1), .val (.int p1), .val (.int mm)] [])) _
              refine XS.aloadN X0.here hx rfl (hb hby d24_43) rfl rfl ?_
              show Steps p.tables e below (s₁.setTop (mkF m 44 #[.val (.ref a1), .val (.int p1), .val (.int mm)] [(.ref a1)])) _
              refine XT.iconstV X0.here hx rfl (3 : Int32) (hb hby d24_44) rfl ?_
              show Steps p.tables e below (s₁.setTop (mkF m 45 #[.val (.ref a1), .val (.int p1), .val (.int mm)] [(.int (3 : Int32)), (.ref a1)])) _
              refine OwnA.ldI X0 hx hZ e0 A0 (by decide) (Int32.lt_iff_toInt_lt.mp (by assumption)) rfl rfl (hb hby d24_45) ?_
              show Steps p.tables e below (s₁.setTop (mkF m 46 #[.val (.ref a1), .val (.int p1), .val (.int mm)] [(.int (ar (3 : Int32).toInt))])) _
              refine XS.iloadN X0.here hx rfl (hb hby d24_46) rfl ?_
              show Steps p.tables e below (s₁.setTop (mkF m 47 #[.val (.ref a1), .val (.int p1), .val (.int mm)] [(.int p1), (.int (ar (3 : Int32).toInt))])) _
              by_cases c47_250 : (ar (3 : Int32).toInt) = p1
              · refine XS.icmpNo X0.here hx rfl (hb hby d24_47) rfl (XT.ii_ne_f c47_250) ?_
                show Steps p.tables e below (s₁.setTop (mkF m 50 #[.val (.ref a1), .val (.int p1), .val (.int mm)] [])) _
                refine XT.iconstV X0.here hx rfl (1 : Int32) (hb hby d24_50) rfl ?_
                show Steps p.tables e below (s₁.setTop (mkF m 51 #[.val (.ref a1), .val (.int p1), .val (.int mm)] [(.int (1 : Int32))])) _
                refine XS.goto X0.here hx rfl (pc0 := 51) (pc' := 55) rfl (hb hby d24_51) (by decide) (by decide) ?_
                show Steps p.tables e below (s₁.setTop (mkF m 55 #[.val (.ref a1), .val (.int p1), .val (.int mm)] [(.int (1 : Int32))])) _
                rw [show w1 = (1 : Int32) from by rw [qw1, if_neg c4_227, if_pos c16_243, if_neg c23_244, if_neg c28_245, if_pos c40_249, if_pos c47_250]] at k
                exact k
              · refine XS.icmpYes X0.here hx rfl (pc0 := 47) (pc' := 54) rfl (hb hby d24_47) rfl (XT.ii_ne_t c47_250) (by decide) (by decide) ?_
                show Steps p.tables e below (s₁.setTop (mkF m 54 #[.val (.ref a1), .val (.int p1), .val (.int mm)] [])) _
                refine XT.iconstV X0.here hx rfl (0 : Int32) (hb hby d24_54) rfl ?_
                show Steps p.tables e below (s₁.setTop (mkF m 55 #[.val (.ref a1), .val (.int p1), .val (.int mm)] [(.int (0 : Int32))])) _
                rw [show w1 = (0 : Int32) from by rw [qw1, if_neg c4_227, if_pos c16_243, if_neg c23_244, if_neg c28_245, if_pos c40_249, if_neg c47_250]] at k
                exact k
            · refine XS.icmpYes X0.here hx rfl (pc0 := 40) (pc' := 54) rfl (hb hby d24_40) rfl (XT.ii_le_t c40_249) (by decide) (by decide) ?_
              show Steps p.tables e below (s₁.setTop (mkF m 54 #[.val (.ref a1), .val (.int p1), .val (.int mm)] [])) _
              refine XT.iconstV X0.here hx rfl (0 : Int32) (hb hby d24_54) rfl ?_
              show Steps p.tables e below (s₁.setTop (mkF m 55 #[.val (.ref a1), .val (.int p1), .val (.int mm)] [(.int (0 : Int32))])) _
              rw [show w1 = (0 : Int32) from by rw [qw1, if_neg c4_227, if_pos c16_243, if_neg c23_244, if_neg c28_245, if_neg c40_249]] at k
              exact k
      · refine XS.icmpYes X0.here hx rfl (pc0 := 16) (pc' := 26) rfl (hb hby d24_16) rfl (XT.ii_le_t c16_243) (by decide) (by decide) ?_
        show Steps p.tables e below (s₁.setTop (mkF m 26 #[.val (.ref a1), .val (.int p1), .val (.int mm)] [])) _
        refine XS.iloadN X0.here hx rfl (hb hby d24_26) rfl ?_
        show Steps p.tables e below (s₁.setTop (mkF m 27 #[.val (.ref a1), .val (.int p1), .val (.int mm)] [(.int mm)])) _
        refine XT.iconstV X0.here hx rfl (2 : Int32) (hb hby d24_27) rfl ?_
        show Steps p.tables e below (s₁.setTop (mkF m 28 #[.val (.ref a1), .val (.int p1), .val (.int mm)] [(.int (2 : Int32)), (.int mm)])) _
        by_cases c28_251 : (2 : Int32) < mm
        · refine XS.icmpNo X0.here hx rfl (hb hby d24_28) rfl (XT.ii_le_f c28_251) ?_
          show Steps p.tables e below (s₁.setTop (mkF m 31 #[.val (.ref a1), .val (.int p1), .val (.int mm)] [])) _
          refine XS.aloadN X0.here hx rfl (hb hby d24_31) rfl rfl ?_
          show Steps p.tables e below (s₁.setTop (mkF m 32 #[.val (.ref a1), .val (.int p1), .val (.int mm)] [(.ref a1)])) _
          refine XT.iconstV X0.here hx rfl (2 : Int32) (hb hby d24_32) rfl ?_
          show Steps p.tables e below (s₁.setTop (mkF m 33 #[.val (.ref a1), .val (.int p1), .val (.int mm)] [(.int (2 : Int32)), (.ref a1)])) _
          refine OwnA.ldI X0 hx hZ e0 A0 (by decide) (Int32.lt_iff_toInt_lt.mp (by assumption)) rfl rfl (hb hby d24_33) ?_
          show Steps p.tables e below (s₁.setTop (mkF m 34 #[.val (.ref a1), .val (.int p1), .val (.int mm)] [(.int (ar (2 : Int32).toInt))])) _
          refine XS.iloadN X0.here hx rfl (hb hby d24_34) rfl ?_
          show Steps p.tables e below (s₁.setTop (mkF m 35 #[.val (.ref a1), .val (.int p1), .val (.int mm)] [(.int p1), (.int (ar (2 : Int32).toInt))])) _
          by_cases c35_252 : (ar (2 : Int32).toInt) = p1
          · refine XS.icmpYes X0.here hx rfl (pc0 := 35) (pc' := 50) rfl (hb hby d24_35) rfl (XT.ii_eq_t c35_252) (by decide) (by decide) ?_
            show Steps p.tables e below (s₁.setTop (mkF m 50 #[.val (.ref a1), .val (.int p1), .val (.int mm)] [])) _
            refine XT.iconstV X0.here hx rfl (1 : Int32) (hb hby d24_50) rfl ?_
            show Steps p.tables e below (s₁.setTop (mkF m 51 #[.val (.ref a1), .val (.int p1), .val (.int mm)] [(.int (1 : Int32))])) _
            refine XS.goto X0.here hx rfl (pc0 := 51) (pc' := 55) rfl (hb hby d24_51) (by decide) (by decide) ?_
            show Steps p.tables e below (s₁.setTop (mkF m 55 #[.val (.ref a1), .val (.int p1), .val (.int mm)] [(.int (1 : Int32))])) _
            rw [show w1 = (1 : Int32) from by rw [qw1, if_neg c4_227, if_neg c16_243, if_pos c28_251, if_pos c35_252]] at k
            exact k
          · refine XS.icmpNo X0.here hx rfl (hb hby d24_35) rfl (XT.ii_eq_f c35_252) ?_
            show Steps p.tables e below (s₁.setTop (mkF m 38 #[.val (.ref a1), .val (.int p1), .val (.int mm)] [])) _
            refine XS.iloadN X0.here hx rfl (hb hby d24_38) rfl ?_
            show Steps p.tables e below (s₁.setTop (mkF m 39 #[.val (.ref a1), .val (.int p1), .val (.int mm)] [(.int mm)])) _
            refine XT.iconstV X0.here hx rfl (3 : Int32) (hb hby d24_39) rfl ?_
            show Steps p.tables e below (s₁.setTop (mkF m 40 #[.val (.ref a1), .val (.int p1), .val (.int mm)] [(.int (3 : Int32)), (.int mm)])) _
            by_cases c40_253 : (3 : Int32) < mm
            · refine XS.icmpNo X0.here hx rfl (hb hby d24_40) rfl (XT.ii_le_f c40_253) ?_
              show Steps p.tables e below (s₁.setTop (mkF m 43 #[.val (.ref a1), .val (.int p1), .val (.int mm)] [])) _
              refine XS.aloadN X0.here hx rfl (hb hby d24_43) rfl rfl ?_
              show Steps p.tables e below (s₁.setTop (mkF m 44 #[.val (.ref a1), .val (.int p1), .val (.int mm)] [(.ref a1)])) _
              refine XT.iconstV X0.here hx rfl (3 : Int32) (hb hby d24_44) rfl ?_
              show Steps p.tables e below (s₁.setTop (mkF m 45 #[.val (.ref a1), .val (.int p1), .val (.int mm)] [(.int (3 : Int32)), (.ref a1)])) _
              refine OwnA.ldI X0 hx hZ e0 A0 (by decide) (Int32.lt_iff_toInt_lt.mp (by assumption)) rfl rfl (hb hby d24_45) ?_
              show Steps p.tables e below (s₁.setTop (mkF m 46 #[.val (.ref a1), .val (.int p1), .val (.int mm)] [(.int (ar (3 : Int32).toInt))])) _
              refine XS.iloadN X0.here hx rfl (hb hby d24_46) rfl ?_
              show Steps p.tables e below (s₁.setTop (mkF m 47 #[.val (.ref a1), .val (.int p1), .val (.int mm)] [(.int p1), (.int (ar (3 : Int32).toInt))])) _
              by_cases c47_254 : (ar (3 : Int32).toInt) = p1
              · refine XS.icmpNo X0.here hx rfl (hb hby d24_47) rfl (XT.ii_ne_f c47_254) ?_
                show Steps p.tables e below (s₁.setTop (mkF m 50 #[.val (.ref a1), .val (.int p1), .val (.int mm)] [])) _
                refine XT.iconstV X0.here hx rfl (1 : Int32) (hb hby d24_50) rfl ?_
                show Steps p.tables e below (s₁.setTop (mkF m 51 #[.val (.ref a1), .val (.int p1), .val (.int mm)] [(.int (1 : Int32))])) _
                refine XS.goto X0.here hx rfl (pc0 := 51) (pc' := 55) rfl (hb hby d24_51) (by decide) (by decide) ?_
                show Steps p.tables e below (s₁.setTop (mkF m 55 #[.val (.ref a1), .val (.int p1), .val (.int mm)] [(.int (1 : Int32))])) _
                rw [show w1 = (1 : Int32) from by rw [qw1, if_neg c4_227, if_neg c16_243, if_pos c28_251, if_neg c35_252, if_pos c40_253, if_pos c47_254]] at k
                exact k
              · refine XS.icmpYes X0.here hx rfl (pc0 := 47) (pc' := 54) rfl (hb hby d24_47) rfl (XT.ii_ne_t c47_254) (by decide) (by decide) ?_
                show Steps p.tables e below (s₁.setTop (mkF m 54 #[.val (.ref a1), .val (.int p1), .val (.int mm)] [])) _
                refine XT.iconstV X0.here hx rfl (0 : Int32) (hb hby d24_54) rfl ?_
                show Steps p.tables e below (s₁.setTop (mkF m 55 #[.val (.ref a1), .val (.int p1), .val (.int mm)] [(.int (0 : Int32))])) _
                rw [show w1 = (0 : Int32) from by rw [qw1, if_neg c4_227, if_neg c16_243, if_pos c28_251, if_neg c35_252, if_pos c40_253, if_neg c47_254]] at k
                exact k
            · refine XS.icmpYes X0.here hx rfl (pc0 := 40) (pc' := 54) rfl (hb hby d24_40) rfl (XT.ii_le_t c40_253) (by decide) (by decide) ?_
              show Steps p.tables e below (s₁.setTop (mkF m 54 #[.val (.ref a1), .val (.int p1), .val (.int mm)] [])) _
              refine XT.iconstV X0.here hx rfl (0 : Int32) (hb hby d24_54) rfl ?_
              show Steps p.tables e below (s₁.setTop (mkF m 55 #[.val (.ref a1), .val (.int p1), .val (.int mm)] [(.int (0 : Int32))])) _
              rw [show w1 = (0 : Int32) from by rw [qw1, if_neg c4_227, if_neg c16_243, if_pos c28_251, if_neg c35_252, if_neg c40_253]] at k
              exact k
        · refine XS.icmpYes X0.here hx rfl (pc0 := 28) (pc' := 38) rfl (hb hby d24_28) rfl (XT.ii_le_t c28_251) (by decide) (by decide) ?_
          show Steps p.tables e below (s₁.setTop (mkF m 38 #[.val (.ref a1), .val (.int p1), .val (.int mm)] [])) _
          refine XS.iloadN X0.here hx rfl (hb hby d24_38) rfl ?_
          show Steps p.tables e below (s₁.setTop (mkF m 39 #[.val (.ref a1), .val (.int p1), .val (.int mm)] [(.int mm)])) _
          refine XT.iconstV X0.here hx rfl (3 : Int32) (hb hby d24_39) rfl ?_
          show Steps p.tables e below (s₁.setTop (mkF m 40 #[.val (.ref a1), .val (.int p1), .val (.int mm)] [(.int (3 : Int32)), (.int mm)])) _
          by_cases c40_255 : (3 : Int32) < mm
          · refine XS.icmpNo X0.here hx rfl (hb hby d24_40) rfl (XT.ii_le_f c40_255) ?_
            show Steps p.tables e below (s₁.setTop (mkF m 43 #[.val (.ref a1), .val (.int p1), .val (.int mm)] [])) _
            refine XS.aloadN X0.here hx rfl (hb hby d24_43) rfl rfl ?_
            show Steps p.tables e below (s₁.setTop (mkF m 44 #[.val (.ref a1), .val (.int p1), .val (.int mm)] [(.ref a1)])) _
            refine XT.iconstV X0.here hx rfl (3 : Int32) (hb hby d24_44) rfl ?_
            show Steps p.tables e below (s₁.setTop (mkF m 45 #[.val (.ref a1), .val (.int p1), .val (.int mm)] [(.int (3 : Int32)), (.ref a1)])) _
            refine OwnA.ldI X0 hx hZ e0 A0 (by decide) (Int32.lt_iff_toInt_lt.mp (by assumption)) rfl rfl (hb hby d24_45) ?_
            show Steps p.tables e below (s₁.setTop (mkF m 46 #[.val (.ref a1), .val (.int p1), .val (.int mm)] [(.int (ar (3 : Int32).toInt))])) _
            refine XS.iloadN X0.here hx rfl (hb hby d24_46) rfl ?_
            show Steps p.tables e below (s₁.setTop (mkF m 47 #[.val (.ref a1), .val (.int p1), .val (.int mm)] [(.int p1), (.int (ar (3 : Int32).toInt))])) _
            by_cases c47_256 : (ar (3 : Int32).toInt) = p1
            · refine XS.icmpNo X0.here hx rfl (hb hby d24_47) rfl (XT.ii_ne_f c47_256) ?_
              show Steps p.tables e below (s₁.setTop (mkF m 50 #[.val (.ref a1), .val (.int p1), .val (.int mm)] [])) _
              refine XT.iconstV X0.here hx rfl (1 : Int32) (hb hby d24_50) rfl ?_
              show Steps p.tables e below (s₁.setTop (mkF m 51 #[.val (.ref a1), .val (.int p1), .val (.int mm)] [(.int (1 : Int32))])) _
              refine XS.goto X0.here hx rfl (pc0 := 51) (pc' := 55) rfl (hb hby d24_51) (by decide) (by decide) ?_
              show Steps p.tables e below (s₁.setTop (mkF m 55 #[.val (.ref a1), .val (.int p1), .val (.int mm)] [(.int (1 : Int32))])) _
              rw [show w1 = (1 : Int32) from by rw [qw1, if_neg c4_227, if_neg c16_243, if_neg c28_251, if_pos c40_255, if_pos c47_256]] at k
              exact k
            · refine XS.icmpYes X0.here hx rfl (pc0 := 47) (pc' := 54) rfl (hb hby d24_47) rfl (XT.ii_ne_t c47_256) (by decide) (by decide) ?_
              show Steps p.tables e below (s₁.setTop (mkF m 54 #[.val (.ref a1), .val (.int p1), .val (.int mm)] [])) _
              refine XT.iconstV X0.here hx rfl (0 : Int32) (hb hby d24_54) rfl ?_
              show Steps p.tables e below (s₁.setTop (mkF m 55 #[.val (.ref a1), .val (.int p1), .val (.int mm)] [(.int (0 : Int32))])) _
              rw [show w1 = (0 : Int32) from by rw [qw1, if_neg c4_227, if_neg c16_243, if_neg c28_251, if_pos c40_255, if_neg c47_256]] at k
              exact k
          · refine XS.icmpYes X0.here hx rfl (pc0 := 40) (pc' := 54) rfl (hb hby d24_40) rfl (XT.ii_le_t c40_255) (by decide) (by decide) ?_
            show Steps p.tables e below (s₁.setTop (mkF m 54 #[.val (.ref a1), .val (.int p1), .val (.int mm)] [])) _
            refine XT.iconstV X0.here hx rfl (0 : Int32) (hb hby d24_54) rfl ?_
            show Steps p.tables e below (s₁.setTop (mkF m 55 #[.val (.ref a1), .val (.int p1), .val (.int mm)] [(.int (0 : Int32))])) _
            rw [show w1 = (0 : Int32) from by rw [qw1, if_neg c4_227, if_neg c16_243, if_neg c28_251, if_neg c40_255]] at k
            exact k
  refine OwnWp.retZ X0 hx hlk Bd.returns (hb hby d24_55) (by decide) (by decide) (by rw [qw1]; repeat (first | exact Or.inl rfl | exact Or.inr rfl | split)) ?_
  refine ⟨?_, N0, e0⟩
  show some (Value.int w1) = some (.int (own_has mm ar p1))
  subst qw1
  unfold own_has own_has_w1
  rfl
def own_ins4 (p1 : Int32) (ex on : Int → Int32) : Int32 := (if (on (0 : Int32).toInt) = (0 : Int32) then (if (on (1 : Int32).toInt) = (0 : Int32) then (if (on (2 : Int32).toInt) = (0 : Int32) then (if (on (3 : Int32).toInt) = (0 : Int32) then (0 : Int32) else (if p1 = (ex (3 : Int32).toInt) then (1 : Int32) else (0 : Int32))) else (if p1 = (ex (2 : Int32).toInt) then (1 : Int32) else (if (on (3 : Int32).toInt) = (0 : Int32) then (0 : Int32) else (if p1 = (ex (3 : Int32).toInt) then (1 : Int32) else (0 : Int32))))) else (if p1 = (ex (1 : Int32).toInt) then (1 : Int32) else (if (on (2 : Int32).toInt) = (0 : Int32) then (if (on (3 : Int32).toInt) = (0 : Int32) then (0 : Int32) else (if p1 = (ex (3 : Int32).toInt) then (1 : Int32) else (0 : Int32))) else (if p1 = (ex (2 : Int32).toInt) then (1 : Int32) else (if (on (3 : Int32).toInt) = (0 : Int32) then (0 : Int32) else (if p1 = (ex (3 : Int32).toInt) then (1 : Int32) else (0 : Int32))))))) else (if p1 = (ex (0 : Int32).toInt) then (1 : Int32) else (if (on (1 : Int32).toInt) = (0 : Int32) then (if (on (2 : Int32).toInt) = (0 : Int32) then (if (on (3 : Int32).toInt) = (0 : Int32) then (0 : Int32) else (if p1 = (ex (3 : Int32).toInt) then (1 : Int32) else (0 : Int32))) else (if p1 = (ex (2 : Int32).toInt) then (1 : Int32) else (if (on (3 : Int32).toInt) = (0 : Int32) then (0 : Int32) else (if p1 = (ex (3 : Int32).toInt) then (1 : Int32) else (0 : Int32))))) else (if p1 = (ex (1 : Int32).toInt) then (1 : Int32) else (if (on (2 : Int32).toInt) = (0 : Int32) then (if (on (3 : Int32).toInt) = (0 : Int32) then (0 : Int32) else (if p1 = (ex (3 : Int32).toInt) then (1 : Int32) else (0 : Int32))) else (if p1 = (ex (2 : Int32).toInt) then (1 : Int32) else (if (on (3 : Int32).toInt) = (0 : Int32) then (0 : Int32) else (if p1 = (ex (3 : Int32).toInt) then (1 : Int32) else (0 : Int32)))))))))
def own_inSet (p1 : Int32) (ex on : Int → Int32) (p4 p5 : Int32) : Int32 := if p4 = (0 : Int32) then own_ins4 p1 ex on else if p1 = p5 then (0 : Int32) else own_ins4 p1 ex on
theorem d21_0 : decode method_3_code 0 = .ok (.iload_n 3, 1) := by decide +kernel
theorem d21_1 : decode method_3_code 1 = .ok (.ifCond .eq 11, 3) := by decide +kernel
theorem d21_4 : decode method_3_code 4 = .ok (.iload_n 0, 1) := by decide +kernel
theorem d21_5 : decode method_3_code 5 = .ok (.iload 4, 2) := by decide +kernel
theorem d21_7 : decode method_3_code 7 = .ok (.if_icmp .ne 5, 3) := by decide +kernel
theorem d21_10 : decode method_3_code 10 = .ok (.iconst 0, 1) := by decide +kernel
theorem d21_11 : decode method_3_code 11 = .ok (.ireturn, 1) := by decide +kernel
theorem d21_12 : decode method_3_code 12 = .ok (.aload_n 2, 1) := by decide +kernel
theorem d21_13 : decode method_3_code 13 = .ok (.iconst 0, 1) := by decide +kernel
theorem d21_14 : decode method_3_code 14 = .ok (.baload, 1) := by decide +kernel
theorem d21_15 : decode method_3_code 15 = .ok (.ifCond .eq 10, 3) := by decide +kernel
theorem d21_18 : decode method_3_code 18 = .ok (.iload_n 0, 1) := by decide +kernel
theorem d21_19 : decode method_3_code 19 = .ok (.aload_n 1, 1) := by decide +kernel
theorem d21_20 : decode method_3_code 20 = .ok (.iconst 0, 1) := by decide +kernel
theorem d21_21 : decode method_3_code 21 = .ok (.iaload, 1) := by decide +kernel
theorem d21_22 : decode method_3_code 22 = .ok (.if_icmp .eq 42, 3) := by decide +kernel
theorem d21_25 : decode method_3_code 25 = .ok (.aload_n 2, 1) := by decide +kernel
theorem d21_26 : decode method_3_code 26 = .ok (.iconst 1, 1) := by decide +kernel
theorem d21_27 : decode method_3_code 27 = .ok (.baload, 1) := by decide +kernel
theorem d21_28 : decode method_3_code 28 = .ok (.ifCond .eq 10, 3) := by decide +kernel
theorem d21_31 : decode method_3_code 31 = .ok (.iload_n 0, 1) := by decide +kernel
theorem d21_32 : decode method_3_code 32 = .ok (.aload_n 1, 1) := by decide +kernel
theorem d21_33 : decode method_3_code 33 = .ok (.iconst 1, 1) := by decide +kernel
theorem d21_34 : decode method_3_code 34 = .ok (.iaload, 1) := by decide +kernel
theorem d21_35 : decode method_3_code 35 = .ok (.if_icmp .eq 29, 3) := by decide +kernel
theorem d21_38 : decode method_3_code 38 = .ok (.aload_n 2, 1) := by decide +kernel
theorem d21_39 : decode method_3_code 39 = .ok (.iconst 2, 1) := by decide +kernel
theorem d21_40 : decode method_3_code 40 = .ok (.baload, 1) := by decide +kernel
theorem d21_41 : decode method_3_code 41 = .ok (.ifCond .eq 10, 3) := by decide +kernel
theorem d21_44 : decode method_3_code 44 = .ok (.iload_n 0, 1) := by decide +kernel
theorem d21_45 : decode method_3_code 45 = .ok (.aload_n 1, 1) := by decide +kernel
theorem d21_46 : decode method_3_code 46 = .ok (.iconst 2, 1) := by decide +kernel
theorem d21_47 : decode method_3_code 47 = .ok (.iaload, 1) := by decide +kernel
theorem d21_48 : decode method_3_code 48 = .ok (.if_icmp .eq 16, 3) := by decide +kernel
theorem d21_51 : decode method_3_code 51 = .ok (.aload_n 2, 1) := by decide +kernel
theorem d21_52 : decode method_3_code 52 = .ok (.iconst 3, 1) := by decide +kernel
theorem d21_53 : decode method_3_code 53 = .ok (.baload, 1) := by decide +kernel
theorem d21_54 : decode method_3_code 54 = .ok (.ifCond .eq 14, 3) := by decide +kernel
theorem d21_57 : decode method_3_code 57 = .ok (.iload_n 0, 1) := by decide +kernel
theorem d21_58 : decode method_3_code 58 = .ok (.aload_n 1, 1) := by decide +kernel
theorem d21_59 : decode method_3_code 59 = .ok (.iconst 3, 1) := by decide +kernel
theorem d21_60 : decode method_3_code 60 = .ok (.iaload, 1) := by decide +kernel
theorem d21_61 : decode method_3_code 61 = .ok (.if_icmp .ne 7, 3) := by decide +kernel
theorem d21_64 : decode method_3_code 64 = .ok (.iconst 1, 1) := by decide +kernel
theorem d21_65 : decode method_3_code 65 = .ok (.goto 4, 3) := by decide +kernel
theorem d21_68 : decode method_3_code 68 = .ok (.iconst 0, 1) := by decide +kernel
theorem d21_69 : decode method_3_code 69 = .ok (.ireturn, 1) := by decide +kernel
theorem pn_21 : plainFor (⟨"com/example/utu/utu/SlotNumbersToArrayPinLaw", "inSet", "(I[I[ZZI)Z"⟩ : MethodName) = true := plainFor_of_name (by first | (simp [plainName, overriddenIn]; done) | decide +kernel)
theorem pd_21 : parseMethodDescriptor "(I[I[ZZI)Z" = some ⟨[.int, (.array .int), (.array .boolean), .boolean, .int], some .boolean⟩ := by decide +kernel
theorem ef_21 (m : MethodId) (x0 : Int32) (x1 : Addr) (x2 : Addr) (x3 : Int32) (x4 : Int32) : entryFrame m #[(.int x0), (.ref x1), (.ref x2), (.int x3), (.int x4)] 5 = mkF m 0 #[.val (.int x0), .val (.ref x1), .val (.ref x2), .val (.int x3), .val (.int x4)] [] := by first | (simp [entryFrame, mkF, argsToLocals, Value.category, maxLocals]; done) | rfl
def Q21 (Z : State) (p1 : Int32) (a1 : Addr) (a2 : Addr) (p4 : Int32) (p5 : Int32) (ex : Int → Int32) (on : Int → Int32) (h0 : Heap) (n0 : Nat) (v : Option Value) (h : Heap) (L : List Loc) : Prop := v = some (.int (own_inSet p1 ex on p4 p5)) ∧ Fr n0 L ∧ h = h0
set_option maxRecDepth 65536 in
set_option maxHeartbeats 40000000 in
theorem rm21 (l : Launch) (Z : State) (a0 : Array Value) (hw : ∀ d ∈ tables_1, d.before a0 Z = true) (ws : List Jvm.Cond) (p1 : Int32) (a1 : Addr) (a2 : Addr) (p4 : Int32) (p5 : Int32) (ex : Int → Int32) (on : Int → Int32) (h0 : Heap) (n0 : Nat) (Z0 : n0 ≤ h0.size) (A1 : OwnA Z h0 a1 .int (4 : Int32) (fun i => .int (ex i))) (A2 : OwnA Z h0 a2 .boolean (4 : Int32) (fun i => .int (on i))) :
    MetFree l (⟨"com/example/utu/utu/SlotNumbersToArrayPinLaw", "inSet", "(I[I[ZZI)Z"⟩ : MethodName) (head1 (Jvm.Cond.code (⟨"com/example/utu/utu/SlotNumbersToArrayPinLaw", "inSet", "(I[I[ZZI)Z"⟩ : MethodName) method_3_code 5 (some .boolean) :: ws) ({ frames := 0, cells := 0, slots := 0, locals := 0 } : Room)) (fun a U => a = #[(.int p1), (.ref a1), (.ref a2), (.int p4), (.int p5)] ∧ Z.Warmed39 U.vm ∧ U.heap = h0) (fun _ _ _ _ _ => True) (fun _ U oc U' => ∃ v L, oc = .returned v ∧ Q21 Z p1 a1 a2 p4 p5 ex on h0 n0 v U'.heap L ∧ FrameEnd U oc U' L ({ frames := 0, cells := 0, slots := 0, locals := 0 } : Room).cells ({ frames := 0, cells := 0, slots := 0, locals := 0 } : Room).slots) := by
  refine MetFree.of_bodySF pn_21 hisR ?_
  intro p e s m args below meth c s₁ Bd hml0 hP hK
  obtain ⟨rfl, hZ, hh⟩ := hP
  have hx := Bd.exec
  have hby := Bd.bytes
  have hlk := BodyLoose.notSynchronized Bd
  have hml : c.maxLocals = 5 := hml0
  have hown : s.vm.findClass "com/example/utu/utu/SlotNumbersToArrayPinLaw" = some m.cls := findClass_of_methodNamed Bd.named
  have hnm := (name_of_methodNamed Bd.named Bd.method).1
  have X0 : Stand p l e ({ frames := 0, cells := 0, slots := 0, locals := 0 } : Room) s m #[(.int p1), (.ref a1), (.ref a2), (.int p4), (.int p5)] below meth c s₁ [] 0 0 := Stand.of_body Bd
  have e0 : s₁.heap = h0 := by rw [← hh, Bd.state]; rfl
  have N0 := Fr.nil n0
  show OwnWp p e below s ({ frames := 0, cells := 0, slots := 0, locals := 0 } : Room).cells ({ frames := 0, cells := 0, slots := 0, locals := 0 } : Room).slots (Q21 Z p1 a1 a2 p4 p5 ex on h0 n0) (s₁.setTop (entryFrame m #[(.int p1), (.ref a1), (.ref a2), (.int p4), (.int p5)] 5))
  refine OwnWp.cast (ef_21 m p1 a1 a2 p4 p5) ?_
  show OwnWp p e below s _ _ _ (s₁.setTop (mkF m 0 #[.val (.int p1), .val (.ref a1), .val (.ref a2), .val (.int p4), .val (.int p5)] []))
  have J12 : ∀ (T257 : State) (h257 : Heap) (L257 : List Loc)  (X257 : Stand p l e ({ frames := 0, cells := 0, slots := 0, locals := 0 } : Room) s m #[(.int p1), (.ref a1), (.ref a2), (.int p4), (.int p5)] below meth c T257 L257 0 0) (e257 : T257.heap = h257) (N257 : Fr n0 L257) (Z257 : n0 ≤ h257.size) (f258 : OwnA Z h257 a1 .int (4 : Int32) (fun zi => .int (ex zi))) (f259 : OwnA Z h257 a2 .boolean (4 : Int32) (fun zi => .int (on zi))) (hq12 : h257 = h0) (hv : own_inSet p1 ex on p4 p5 = own_ins4 p1 ex on), OwnWp p e below s ({ frames := 0, cells := 0, slots := 0, locals := 0 } : Room).cells ({ frames := 0, cells := 0, slots := 0, locals := 0 } : Room).slots (Q21 Z p1 a1 a2 p4 p5 ex on h0 n0) (T257.setTop (mkF m 12 #[.val (.int p1), .val (.ref a1), .val (.ref a2), .val (.int p4), .val (.int p5)] [])) := by
    intro T257 h257 L257  X257 e257 N257 Z257 f258 f259 hq12 hv
    refine OwnWp.step (U' := T257.setTop (mkF m 15 #[.val (.int p1), .val (.ref a1), .val (.ref a2), .val (.int p4), .val (.int p5)] [(.int (on (0 : Int32).toInt))])) (fun t k => ?_) ?_
    · show Steps p.tables e below (T257.setTop (mkF m 12 #[.val (.int p1), .val (.ref a1), .val (.ref a2), .val (.int p4), .val (.int p5)] [])) _
      refine XS.aloadN X257.here hx rfl (hb hby d21_12) rfl rfl ?_
      show Steps p.tables e below (T257.setTop (mkF m 13 #[.val (.int p1), .val (.ref a1), .val (.ref a2), .val (.int p4), .val (.int p5)] [(.ref a2)])) _
      refine XT.iconstV X257.here hx rfl (0 : Int32) (hb hby d21_13) rfl ?_
      show Steps p.tables e below (T257.setTop (mkF m 14 #[.val (.int p1), .val (.ref a1), .val (.ref a2), .val (.int p4), .val (.int p5)] [(.int (0 : Int32)), (.ref a2)])) _
      refine OwnA.ldZ X257 hx hZ e257 f259 (by decide) (by decide) rfl rfl (hb hby d21_14) ?_
      show Steps p.tables e below (T257.setTop (mkF m 15 #[.val (.int p1), .val (.ref a1), .val (.ref a2), .val (.int p4), .val (.int p5)] [(.int (on (0 : Int32).toInt))])) _
      exact k
    obtain ⟨w1, qw1⟩ : ∃ z : Int32, z = (if (on (0 : Int32).toInt) = (0 : Int32) then (if (on (1 : Int32).toInt) = (0 : Int32) then (if (on (2 : Int32).toInt) = (0 : Int32) then (if (on (3 : Int32).toInt) = (0 : Int32) then (0 : Int32) else (if p1 = (ex (3 : Int32).toInt) then (1 : Int32) else (0 : Int32))) else (if p1 = (ex (2 : Int32).toInt) then (1 : Int32) else (if (on (3 : Int32).toInt) = (0 : Int32) then (0 : Int32) else (if p1 = (ex (3 : Int32).toInt) then (1 : Int32) else (0 : Int32))))) else (if p1 = (ex (1 : Int32).toInt) then (1 : Int32) else (if (on (2 : Int32).toInt) = (0 : Int32) then (if (on (3 : Int32).toInt) = (0 : Int32) then (0 : Int32) else (if p1 = (ex (3 : Int32).toInt) then (1 : Int32) else (0 : Int32))) else (if p1 = (ex (2 : Int32).toInt) then (1 : Int32) else (if (on (3 : Int32).toInt) = (0 : Int32) then (0 : Int32) else (if p1 = (ex (3 : Int32).toInt) then (1 : Int32) else (0 : Int32))))))) else (if p1 = (ex (0 : Int32).toInt) then (1 : Int32) else (if (on (1 : Int32).toInt) = (0 : Int32) then (if (on (2 : Int32).toInt) = (0 : Int32) then (if (on (3 : Int32).toInt) = (0 : Int32) then (0 : Int32) else (if p1 = (ex (3 : Int32).toInt) then (1 : Int32) else (0 : Int32))) else (if p1 = (ex (2 : Int32).toInt) then (1 : Int32) else (if (on (3 : Int32).toInt) = (0 : Int32) then (0 : Int32) else (if p1 = (ex (3 : Int32).toInt) then (1 : Int32) else (0 : Int32))))) else (if p1 = (ex (1 : Int32).toInt) then (1 : Int32) else (if (on (2 : Int32).toInt) = (0 : Int32) then (if (on (3 : Int32).toInt) = (0 : Int32) then (0 : Int32) else (if p1 = (ex (3 : Int32).toInt) then (1 : Int32) else (0 : Int32))) else (if p1 = (ex (2 : Int32).toInt) then (1 : Int32) else (if (on (3 : Int32).toInt) = (0 : Int32) then (0 : Int32) else (if p1 = (ex (3 : Int32).toInt) then (1 : Int32) else (0 : Int32))))))))) := ⟨_, rfl⟩
    refine OwnWp.step (U' := T257.setTop (mkF m 69 #[.val (.int p1), .val (.ref a1), .val (.ref a2), .val (.int p4), .val (.int p5)] [(.int w1)])) (fun t k => ?_) ?_
    · show Steps p.tables e below (T257.setTop (mkF m 15 #[.val (.int p1), .val (.ref a1), .val (.ref a2), .val (.int p4), .val (.int p5)] [(.int (on (0 : Int32).toInt))])) _
      by_cases c15_260 : (on (0 : Int32).toInt) = (0 : Int32)
      · refine XS.ifYes X257.here hx rfl (pc0 := 15) (pc' := 25) rfl (hb hby d21_15) rfl (XT.i0_eq_t c15_260) (by decide) (by decide) ?_
        show Steps p.tables e below (T257.setTop (mkF m 25 #[.val (.int p1), .val (.ref a1), .val (.ref a2), .val (.int p4), .val (.int p5)] [])) _
        refine XS.aloadN X257.here hx rfl (hb hby d21_25) rfl rfl ?_
        show Steps p.tables e below (T257.setTop (mkF m 26 #[.val (.int p1), .val (.ref a1), .val (.ref a2), .val (.int p4), .val (.int p5)] [(.ref a2)])) _
        refine XT.iconstV X257.here hx rfl (1 : Int32) (hb hby d21_26) rfl ?_
        show Steps p.tables e below (T257.setTop (mkF m 27 #[.val (.int p1), .val (.ref a1), .val (.ref a2), .val (.int p4), .val (.int p5)] [(.int (1 : Int32)), (.ref a2)])) _
        refine OwnA.ldZ X257 hx hZ e257 f259 (by decide) (by decide) rfl rfl (hb hby d21_27) ?_
        show Steps p.tables e below (T257.setTop (mkF m 28 #[.val (.int p1), .val (.ref a1), .val (.ref a2), .val (.int p4), .val (.int p5)] [(.int (on (1 : Int32).toInt))])) _
        by_cases c28_261 : (on (1 : Int32).toInt) = (0 : Int32)
        · refine XS.ifYes X257.here hx rfl (pc0 := 28) (pc' := 38) rfl (hb hby d21_28) rfl (XT.i0_eq_t c28_261) (by decide) (by decide) ?_
          show Steps p.tables e below (T257.setTop (mkF m 38 #[.val (.int p1), .val (.ref a1), .val (.ref a2), .val (.int p4), .val (.int p5)] [])) _
          refine XS.aloadN X257.here hx rfl (hb hby d21_38) rfl rfl ?_
          show Steps p.tables e below (T257.setTop (mkF m 39 #[.val (.int p1), .val (.ref a1), .val (.ref a2), .val (.int p4), .val (.int p5)] [(.ref a2)])) _
          refine XT.iconstV X257.here hx rfl (2 : Int32) (hb hby d21_39) rfl ?_
          show Steps p.tables e below (T257.setTop (mkF m 40 #[.val (.int p1), .val (.ref a1), .val (.ref a2), .val (.int p4), .val (.int p5)] [(.int (2 : Int32)), (.ref a2)])) _
          refine OwnA.ldZ X257 hx hZ e257 f259 (by decide) (by decide) rfl rfl (hb hby d21_40) ?_
          show Steps p.tables e below (T257.setTop (mkF m 41 #[.val (.int p1), .val (.ref a1), .val (.ref a2), .val (.int p4), .val (.int p5)] [(.int (on (2 : Int32).toInt))])) _
          by_cases c41_262 : (on (2 : Int32).toInt) = (0 : Int32)
          · refine XS.ifYes X257.here hx rfl (pc0 := 41) (pc' := 51) rfl (hb hby d21_41) rfl (XT.i0_eq_t c41_262) (by decide) (by decide) ?_
            show Steps p.tables e below (T257.setTop (mkF m 51 #[.val (.int p1), .val (.ref a1), .val (.ref a2), .val (.int p4), .val (.int p5)] [])) _
            refine XS.aloadN X257.here hx rfl (hb hby d21_51) rfl rfl ?_
            show Steps p.tables e below (T257.setTop (mkF m 52 #[.val (.int p1), .val (.ref a1), .val (.ref a2), .val (.int p4), .val (.int p5)] [(.ref a2)])) _
            refine XT.iconstV X257.here hx rfl (3 : Int32) (hb hby d21_52) rfl ?_
            show Steps p.tables e below (T257.setTop (mkF m 53 #[.val (.int p1), .val (.ref a1), .val (.ref a2), .val (.int p4), .val (.int p5)] [(.int (3 : Int32)), (.ref a2)])) _
            refine OwnA.ldZ X257 hx hZ e257 f259 (by decide) (by decide) rfl rfl (hb hby d21_53) ?_
            show Steps p.tables e below (T257.setTop (mkF m 54 #[.val (.int p1), .val (.ref a1), .val (.ref a2), .val (.int p4), .val (.int p5)] [(.int (on (3 : Int32).toInt))])) _
            by_cases c54_263 : (on (3 : Int32).toInt) = (0 : Int32)
            · refine XS.ifYes X257.here hx rfl (pc0 := 54) (pc' := 68) rfl (hb hby d21_54) rfl (XT.i0_eq_t c54_263) (by decide) (by decide) ?_
              show Steps p.tables e below (T257.setTop (mkF m 68 #[.val (.int p1), .val (.ref a1), .val (.ref a2), .val (.int p4), .val (.int p5)] [])) _
              refine XT.iconstV X257.here hx rfl (0 : Int32) (hb hby d21_68) rfl ?_
              show Steps p.tables e below (T257.setTop (mkF m 69 #[.val (.int p1), .val (.ref a1), .val (.ref a2), .val (.int p4), .val (.int p5)] [(.int (0 : Int32))])) _
              rw [show w1 = (0 : Int32) from by rw [qw1, if_pos c15_260, if_pos c28_261, if_pos c41_262, if_pos c54_263]] at k
              exact k
            · refine XS.ifNo X257.here hx rfl (hb hby d21_54) rfl (XT.i0_eq_f c54_263) ?_
              show Steps p.tables e below (T257.setTop (mkF m 57 #[.val (.int p1), .val (.ref a1), .val (.ref a2), .val (.int p4), .val (.int p5)] [])) _
              refine XS.iloadN X257.here hx rfl (hb hby d21_57) rfl ?_
              show Steps p.tables e below (T257.setTop (mkF m 58 #[.val (.int p1), .val (.ref a1), .val (.ref a2), .val (.int p4), .val (.int p5)] [(.int p1)])) _
              refine XS.aloadN X257.here hx rfl (hb hby d21_58) rfl rfl ?_
              show Steps p.tables e below (T257.setTop (mkF m 59 #[.val (.int p1), .val (.ref a1), .val (.ref a2), .val (.int p4), .val (.int p5)] [(.ref a1), (.int p1)])) _
              refine XT.iconstV X257.here hx rfl (3 : Int32) (hb hby d21_59) rfl ?_
              show Steps p.tables e below (T257.setTop (mkF m 60 #[.val (.int p1), .val (.ref a1), .val (.ref a2), .val (.int p4), .val (.int p5)] [(.int (3 : Int32)), (.ref a1), (.int p1)])) _
              refine OwnA.ldI X257 hx hZ e257 f258 (by decide) (by decide) rfl rfl (hb hby d21_60) ?_
              show Steps p.tables e below (T257.setTop (mkF m 61 #[.val (.int p1), .val (.ref a1), .val (.ref a2), .val (.int p4), .val (.int p5)] [(.int (ex (3 : Int32).toInt)), (.int p1)])) _
              by_cases c61_264 : p1 = (ex (3 : Int32).toInt)
              · refine XS.icmpNo X257.here hx rfl (hb hby d21_61) rfl (XT.ii_ne_f c61_264) ?_
                show Steps p.tables e below (T257.setTop (mkF m 64 #[.val (.int p1), .val (.ref a1), .val (.ref a2), .val (.int p4), .val (.int p5)] [])) _
                refine XT.iconstV X257.here hx rfl (1 : Int32) (hb hby d21_64) rfl ?_
                show Steps p.tables e below (T257.setTop (mkF m 65 #[.val (.int p1), .val (.ref a1), .val (.ref a2), .val (.int p4), .val (.int p5)] [(.int (1 : Int32))])) _
                refine XS.goto X257.here hx rfl (pc0 := 65) (pc' := 69) rfl (hb hby d21_65) (by decide) (by decide) ?_
                show Steps p.tables e below (T257.setTop (mkF m 69 #[.val (.int p1), .val (.ref a1), .val (.ref a2), .val (.int p4), .val (.int p5)] [(.int (1 : Int32))])) _
                rw [show w1 = (1 : Int32) from by rw [qw1, if_pos c15_260, if_pos c28_261, if_pos c41_262, if_neg c54_263, if_pos c61_264]] at k
                exact k
              · refine XS.icmpYes X257.here hx rfl (pc0 := 61) (pc' := 68) rfl (hb hby d21_61) rfl (XT.ii_ne_t c61_264) (by decide) (by decide) ?_
                show Steps p.tables e below (T257.setTop (mkF m 68 #[.val (.int p1), .val (.ref a1), .val (.ref a2), .val (.int p4), .val (.int p5)] [])) _
                refine XT.iconstV X257.here hx rfl (0 : Int32) (hb hby d21_68) rfl ?_
                show Steps p.tables e below (T257.setTop (mkF m 69 #[.val (.int p1), .val (.ref a1), .val (.ref a2), .val (.int p4), .val (.int p5)] [(.int (0 : Int32))])) _
                rw [show w1 = (0 : Int32) from by rw [qw1, if_pos c15_260, if_pos c28_261, if_pos c41_262, if_neg c54_263, if_neg c61_264]] at k
                exact k
          · refine XS.ifNo X257.here hx rfl (hb hby d21_41) rfl (XT.i0_eq_f c41_262) ?_
            show Steps p.tables e below (T257.setTop (mkF m 44 #[.val (.int p1), .val (.ref a1), .val (.ref a2), .val (.int p4), .val (.int p5)] [])) _
            refine XS.iloadN X257.here hx rfl (hb hby d21_44) rfl ?_
            show Steps p.tables e below (T257.setTop (mkF m 45 #[.val (.int p1), .val (.ref a1), .val (.ref a2), .val (.int p4), .val (.int p5)] [(.int p1)])) _
            refine XS.aloadN X257.here hx rfl (hb hby d21_45) rfl rfl ?_
            show Steps p.tables e below (T257.setTop (mkF m 46 #[.val (.int p1), .val (.ref a1), .val (.ref a2), .val (.int p4), .val (.int p5)] [(.ref a1), (.int p1)])) _
            refine XT.iconstV X257.here hx rfl (2 : Int32) (hb hby d21_46) rfl ?_
            show Steps p.tables e below (T257.setTop (mkF m 47 #[.val (.int p1), .val (.ref a1), .val (.ref a2), .val (.int p4), .val (.int p5)] [(.int (2 : Int32)), (.ref a1), (.int p1)])) _
            refine OwnA.ldI X257 hx hZ e257 f258 (by decide) (by decide) rfl rfl (hb hby d21_47) ?_
            show Steps p.tables e below (T257.setTop (mkF m 48 #[.val (.int p1), .val (.ref a1), .val (.ref a2), .val (.int p4), .val (.int p5)] [(.int (ex (2 : Int32).toInt)), (.int p1)])) _
            by_cases c48_265 : p1 = (ex (2 : Int32).toInt)
            · refine XS.icmpYes X257.here hx rfl (pc0 := 48) (pc' := 64) rfl (hb hby d21_48) rfl (XT.ii_eq_t c48_265) (by decide) (by decide) ?_
              show Steps p.tables e below (T257.setTop (mkF m 64 #[.val (.int p1), .val (.ref a1), .val (.ref a2), .val (.int p4), .val (.int p5)] [])) _
              refine XT.iconstV X257.here hx rfl (1 : Int32) (hb hby d21_64) rfl ?_
              show Steps p.tables e below (T257.setTop (mkF m 65 #[.val (.int p1), .val (.ref a1), .val (.ref a2), .val (.int p4), .val (.int p5)] [(.int (1 : Int32))])) _
              refine XS.goto X257.here hx rfl (pc0 := 65) (pc' := 69) rfl (hb hby d21_65) (by decide) (by decide) ?_
              show Steps p.tables e below (T257.setTop (mkF m 69 #[.val (.int p1), .val (.ref a1), .val (.ref a2), .val (.int p4), .val (.int p5)] [(.int (1 : Int32))])) _
              rw [show w1 = (1 : Int32) from by rw [qw1, if_pos c15_260, if_pos c28_261, if_neg c41_262, if_pos c48_265]] at k
              exact k
            · refine XS.icmpNo X257.here hx rfl (hb hby d21_48) rfl (XT.ii_eq_f c48_265) ?_
              show Steps p.tables e below (T257.setTop (mkF m 51 #[.val (.int p1), .val (.ref a1), .val (.ref a2), .val (.int p4), .val (.int p5)] [])) _
              refine XS.aloadN X257.here hx rfl (hb hby d21_51) rfl rfl ?_
              show Steps p.tables e below (T257.setTop (mkF m 52 #[.val (.int p1), .val (.ref a1), .val (.ref a2), .val (.int p4), .val (.int p5)] [(.ref a2)])) _
              refine XT.iconstV X257.here hx rfl (3 : Int32) (hb hby d21_52) rfl ?_
              show Steps p.tables e below (T257.setTop (mkF m 53 #[.val (.int p1), .val (.ref a1), .val (.ref a2), .val (.int p4), .val (.int p5)] [(.int (3 : Int32)), (.ref a2)])) _
              refine OwnA.ldZ X257 hx hZ e257 f259 (by decide) (by decide) rfl rfl (hb hby d21_53) ?_
              show Steps p.tables e below (T257.setTop (mkF m 54 #[.val (.int p1), .val (.ref a1), .val (.ref a2), .val (.int p4), .val (.int p5)] [(.int (on (3 : Int32).toInt))])) _
              by_cases c54_266 : (on (3 : Int32).toInt) = (0 : Int32)
              · refine XS.ifYes X257.here hx rfl (pc0 := 54) (pc' := 68) rfl (hb hby d21_54) rfl (XT.i0_eq_t c54_266) (by decide) (by decide) ?_
                show Steps p.tables e below (T257.setTop (mkF m 68 #[.val (.int p1), .val (.ref a1), .val (.ref a2), .val (.int p4), .val (.int p5)] [])) _
                refine XT.iconstV X257.here hx rfl (0 : Int32) (hb hby d21_68) rfl ?_
                show Steps p.tables e below (T257.setTop (mkF m 69 #[.val (.int p1), .val (.ref a1), .val (.ref a2), .val (.int p4), .val (.int p5)] [(.int (0 : Int32))])) _
                rw [show w1 = (0 : Int32) from by rw [qw1, if_pos c15_260, if_pos c28_261, if_neg c41_262, if_neg c48_265, if_pos c54_266]] at k
                exact k
              · refine XS.ifNo X257.here hx rfl (hb hby d21_54) rfl (XT.i0_eq_f c54_266) ?_
                show Steps p.tables e below (T257.setTop (mkF m 57 #[.val (.int p1), .val (.ref a1), .val (.ref a2), .val (.int p4), .val (.int p5)] [])) _
                refine XS.iloadN X257.here hx rfl (hb hby d21_57) rfl ?_
                show Steps p.tables e below (T257.setTop (mkF m 58 #[.val (.int p1), .val (.ref a1), .val (.ref a2), .val (.int p4), .val (.int p5)] [(.int p1)])) _
                refine XS.aloadN X257.here hx rfl (hb hby d21_58) rfl rfl ?_
                show Steps p.tables e below (T257.setTop (mkF m 59 #[.val (.int p1), .val (.ref a1), .val (.ref a2), .val (.int p4), .val (.int p5)] [(.ref a1), (.int p1)])) _
                refine XT.iconstV X257.here hx rfl (3 : Int32) (hb hby d21_59) rfl ?_
                show Steps p.tables e below (T257.setTop (mkF m 60 #[.val (.int p1), .val (.ref a1), .val (.ref a2), .val (.int p4), .val (.int p5)] [(.int (3 : Int32)), (.ref a1), (.int p1)])) _
                refine OwnA.ldI X257 hx hZ e257 f258 (by decide) (by decide) rfl rfl (hb hby d21_60) ?_
                show Steps p.tables e below (T257.setTop (mkF m 61 #[.val (.int p1), .val (.ref a1), .val (.ref a2), .val (.int p4), .val (.int p5)] [(.int (ex (3 : Int32).toInt)), (.int p1)])) _
                by_cases c61_267 : p1 = (ex (3 : Int32).toInt)
                · refine XS.icmpNo X257.here hx rfl (hb hby d21_61) rfl (XT.ii_ne_f c61_267) ?_
                  show Steps p.tables e below (T257.setTop (mkF m 64 #[.val (.int p1), .val (.ref a1), .val (.ref a2), .val (.int p4), .val (.int p5)] [])) _
                  refine XT.iconstV X257.here hx rfl (1 : Int32) (hb hby d21_64) rfl ?_
                  show Steps p.tables e below (T257.setTop (mkF m 65 #[.val (.int p1), .val (.ref a1), .val (.ref a2), .val (.int p4), .val (.int p5)] [(.int (1 : Int32))])) _
                  refine XS.goto X257.here hx rfl (pc0 := 65) (pc' := 69) rfl (hb hby d21_65) (by decide) (by decide) ?_
                  show Steps p.tables e below (T257.setTop (mkF m 69 #[.val (.int p1), .val (.ref a1), .val (.ref a2), .val (.int p4), .val (.int p5)] [(.int (1 : Int32))])) _
                  rw [show w1 = (1 : Int32) from by rw [qw1, if_pos c15_260, if_pos c28_261, if_neg c41_262, if_neg c48_265, if_neg c54_266, if_pos c61_267]] at k
                  exact k
                · refine XS.icmpYes X257.here hx rfl (pc0 := 61) (pc' := 68) rfl (hb hby d21_61) rfl (XT.ii_ne_t c61_267) (by decide) (by decide) ?_
                  show Steps p.tables e below (T257.setTop (mkF m 68 #[.val (.int p1), .val (.ref a1), .val (.ref a2), .val (.int p4), .val (.int p5)] [])) _
                  refine XT.iconstV X257.here hx rfl (0 : Int32) (hb hby d21_68) rfl ?_
                  show Steps p.tables e below (T257.setTop (mkF m 69 #[.val (.int p1), .val (.ref a1), .val (.ref a2), .val (.int p4), .val (.int p5)] [(.int (0 : Int32))])) _
                  rw [show w1 = (0 : Int32) from by rw [qw1, if_pos c15_260, if_pos c28_261, if_neg c41_262, if_neg c48_265, if_neg c54_266, if_neg c61_267]] at k
                  exact k
        · refine XS.ifNo X257.here hx rfl (hb hby d21_28) rfl (XT.i0_eq_f c28_261) ?_
          show Steps p.tables e below (T257.setTop (mkF m 31 #[.val (.int p1), .val (.ref a1), .val (.ref a2), .val (.int p4), .val (.int p5)] [])) _
          refine XS.iloadN X257.here hx rfl (hb hby d21_31) rfl ?_
          show Steps p.tables e below (T257.setTop (mkF m 32 #[.val (.int p1), .val (.ref a1), .val (.ref a2), .val (.int p4), .val (.int p5)] [(.int p1)])) _
          refine XS.aloadN X257.here hx rfl (hb hby d21_32) rfl rfl ?_
          show Steps p.tables e below (T257.setTop (mkF m 33 #[.val (.int p1), .val (.ref a1), .val (.ref a2), .val (.int p4), .val (.int p5)] [(.ref a1), (.int p1)])) _
          refine XT.iconstV X257.here hx rfl (1 : Int32) (hb hby d21_33) rfl ?_
          show Steps p.tables e below (T257.setTop (mkF m 34 #[.val (.int p1), .val (.ref a1), .val (.ref a2), .val (.int p4), .val (.int p5)] [(.int (1 : Int32)), (.ref a1), (.int p1)])) _
          refine OwnA.ldI X257 hx hZ e257 f258 (by decide) (by decide) rfl rfl (hb hby d21_34) ?_
          show Steps p.tables e below (T257.setTop (mkF m 35 #[.val (.int p1), .val (.ref a1), .val (.ref a2), .val (.int p4), .val (.int p5)] [(.int (ex (1 : Int32).toInt)), (.int p1)])) _
          by_cases c35_268 : p1 = (ex (1 : Int32).toInt)
          · refine XS.icmpYes X257.here hx rfl (pc0 := 35) (pc' := 64) rfl (hb hby d21_35) rfl (XT.ii_eq_t c35_268) (by decide) (by decide) ?_
            show Steps p.tables e below (T257.setTop (mkF m 64 #[.val (.int p1), .val (.ref a1), .val (.ref a2), .val (.int p4), .val (.int p5)] [])) _
            refine XT.iconstV X257.here hx rfl (1 : Int32) (hb hby d21_64) rfl ?_
            show Steps p.tables e below (T257.setTop (mkF m 65 #[.val (.int p1), .val (.ref a1), .val (.ref a2), .val (.int p4), .val (.int p5)] [(.int (1 : Int32))])) _
            refine XS.goto X257.here hx rfl (pc0 := 65) (pc' := 69) rfl (hb hby d21_65) (by decide) (by decide) ?_
            show Steps p.tables e below (T257.setTop (mkF m 69 #[.val (.int p1), .val (.ref a1), .val (.ref a2), .val (.int p4), .val (.int p5)] [(.int (1 : Int32))])) _
            rw [show w1 = (1 : Int32) from by rw [qw1, if_pos c15_260, if_neg c28_261, if_pos c35_268]] at k
            exact k
          · refine XS.icmpNo X257.here hx rfl (hb hby d21_35) rfl (XT.ii_eq_f c35_268) ?_
            show Steps p.tables e below (T257.setTop (mkF m 38 #[.val (.int p1), .val (.ref a1), .val (.ref a2), .val (.int p4), .val (.int p5)] [])) _
            refine XS.aloadN X257.here hx rfl (hb hby d21_38) rfl rfl ?_
            show Steps p.tables e below (T257.setTop (mkF m 39 #[.val (.int p1), .val (.ref a1), .val (.ref a2), .val (.int p4), .val (.int p5)] [(.ref a2)])) _
            refine XT.iconstV X257.here hx rfl (2 : Int32) (hb hby d21_39) rfl ?_
            show Steps p.tables e below (T257.setTop (mkF m 40 #[.val (.int p1), .val (.ref a1), .val (.ref a2), .val (.int p4), .val (.int p5)] [(.int (2 : Int32)), (.ref a2)])) _
            refine OwnA.ldZ X257 hx hZ e257 f259 (by decide) (by decide) rfl rfl (hb hby d21_40) ?_
            show Steps p.tables e below (T257.setTop (mkF m 41 #[.val (.int p1), .val (.ref a1), .val (.ref a2), .val (.int p4), .val (.int p5)] [(.int (on (2 : Int32).toInt))])) _
            by_cases c41_269 : (on (2 : Int32).toInt) = (0 : Int32)
            · refine XS.ifYes X257.here hx rfl (pc0 := 41) (pc' := 51) rfl (hb hby d21_41) rfl (XT.i0_eq_t c41_269) (by decide) (by decide) ?_
              show Steps p.tables e below (T257.setTop (mkF m 51 #[.val (.int p1), .val (.ref a1), .val (.ref a2), .val (.int p4), .val (.int p5)] [])) _
              refine XS.aloadN X257.here hx rfl (hb hby d21_51) rfl rfl ?_
              show Steps p.tables e below (T257.setTop (mkF m 52 #[.val (.int p1), .val (.ref a1), .val (.ref a2), .val (.int p4), .val (.int p5)] [(.ref a2)])) _
              refine XT.iconstV X257.here hx rfl (3 : Int32) (hb hby d21_52) rfl ?_
              show Steps p.tables e below (T257.setTop (mkF m 53 #[.val (.int p1), .val (.ref a1), .val (.ref a2), .val (.int p4), .val (.int p5)] [(.int (3 : Int32)), (.ref a2)])) _
              refine OwnA.ldZ X257 hx hZ e257 f259 (by decide) (by decide) rfl rfl (hb hby d21_53) ?_
              show Steps p.tables e below (T257.setTop (mkF m 54 #[.val (.int p1), .val (.ref a1), .val (.ref a2), .val (.int p4), .val (.int p5)] [(.int (on (3 : Int32).toInt))])) _
              by_cases c54_270 : (on (3 : Int32).toInt) = (0 : Int32)
              · refine XS.ifYes X257.here hx rfl (pc0 := 54) (pc' := 68) rfl (hb hby d21_54) rfl (XT.i0_eq_t c54_270) (by decide) (by decide) ?_
                show Steps p.tables e below (T257.setTop (mkF m 68 #[.val (.int p1), .val (.ref a1), .val (.ref a2), .val (.int p4), .val (.int p5)] [])) _
                refine XT.iconstV X257.here hx rfl (0 : Int32) (hb hby d21_68) rfl ?_
                show Steps p.tables e below (T257.setTop (mkF m 69 #[.val (.int p1), .val (.ref a1), .val (.ref a2), .val (.int p4), .val (.int p5)] [(.int (0 : Int32))])) _
                rw [show w1 = (0 : Int32) from by rw [qw1, if_pos c15_260, if_neg c28_261, if_neg c35_268, if_pos c41_269, if_pos c54_270]] at k
                exact k
              · refine XS.ifNo X257.here hx rfl (hb hby d21_54) rfl (XT.i0_eq_f c54_270) ?_
                show Steps p.tables e below (T257.setTop (mkF m 57 #[.val (.int p1), .val (.ref a1), .val (.ref a2), .val (.int p4), .val (.int p5)] [])) _
                refine XS.iloadN X257.here hx rfl (hb hby d21_57) rfl ?_
                show Steps p.tables e below (T257.setTop (mkF m 58 #[.val (.int p1), .val (.ref a1), .val (.ref a2), .val (.int p4), .val (.int p5)] [(.int p1)])) _
                refine XS.aloadN X257.here hx rfl (hb hby d21_58) rfl rfl ?_
                show Steps p.tables e below (T257.setTop (mkF m 59 #[.val (.int p1), .val (.ref a1), .val (.ref a2), .val (.int p4), .val (.int p5)] [(.ref a1), (.int p1)])) _
                refine XT.iconstV X257.here hx rfl (3 : Int32) (hb hby d21_59) rfl ?_
                show Steps p.tables e below (T257.setTop (mkF m 60 #[.val (.int p1), .val (.ref a1), .val (.ref a2), .val (.int p4), .val (.int p5)] [(.int (3 : Int32)), (.ref a1), (.int p1)])) _
                refine OwnA.ldI X257 hx hZ e257 f258 (by decide) (by decide) rfl rfl (hb hby d21_60) ?_
                show Steps p.tables e below (T257.setTop (mkF m 61 #[.val (.int p1), .val (.ref a1), .val (.ref a2), .val (.int p4), .val (.int p5)] [(.int (ex (3 : Int32).toInt)), (.int p1)])) _
                by_cases c61_271 : p1 = (ex (3 : Int32).toInt)
                · refine XS.icmpNo X257.here hx rfl (hb hby d21_61) rfl (XT.ii_ne_f c61_271) ?_
                  show Steps p.tables e below (T257.setTop (mkF m 64 #[.val (.int p1), .val (.ref a1), .val (.ref a2), .val (.int p4), .val (.int p5)] [])) _
                  refine XT.iconstV X257.here hx rfl (1 : Int32) (hb hby d21_64) rfl ?_
                  show Steps p.tables e below (T257.setTop (mkF m 65 #[.val (.int p1), .val (.ref a1), .val (.ref a2), .val (.int p4), .val (.int p5)] [(.int (1 : Int32))])) _
                  refine XS.goto X257.here hx rfl (pc0 := 65) (pc' := 69) rfl (hb hby d21_65) (by decide) (by decide) ?_
                  show Steps p.tables e below (T257.setTop (mkF m 69 #[.val (.int p1), .val (.ref a1), .val (.ref a2), .val (.int p4), .val (.int p5)] [(.int (1 : Int32))])) _
                  rw [show w1 = (1 : Int32) from by rw [qw1, if_pos c15_260, if_neg c28_261, if_neg c35_268, if_pos c41_269, if_neg c54_270, if_pos c61_271]] at k
                  exact k
                · refine XS.icmpYes X257.here hx rfl (pc0 := 61) (pc' := 68) rfl (hb hby d21_61) rfl (XT.ii_ne_t c61_271) (by decide) (by decide) ?_
                  show Steps p.tables e below (T257.setTop (mkF m 68 #[.val (.int p1), .val (.ref a1), .val (.ref a2), .val (.int p4), .val (.int p5)] [])) _
                  refine XT.iconstV X257.here hx rfl (0 : Int32) (hb hby d21_68) rfl ?_
                  show Steps p.tables e below (T257.setTop (mkF m 69 #[.val (.int p1), .val (.ref a1), .val (.ref a2), .val (.int p4), .val (.int p5)] [(.int (0 : Int32))])) _
                  rw [show w1 = (0 : Int32) from by rw [qw1, if_pos c15_260, if_neg c28_261, if_neg c35_268, if_pos c41_269, if_neg c54_270, if_neg c61_271]] at k
                  exact k
            · refine XS.ifNo X257.here hx rfl (hb hby d21_41) rfl (XT.i0_eq_f c41_269) ?_
              show Steps p.tables e below (T257.setTop (mkF m 44 #[.val (.int p1), .val (.ref a1), .val (.ref a2), .val (.int p4), .val (.int p5)] [])) _
              refine XS.iloadN X257.here hx rfl (hb hby d21_44) rfl ?_
              show Steps p.tables e below (T257.setTop (mkF m 45 #[.val (.int p1), .val (.ref a1), .val (.ref a2), .val (.int p4), .val (.int p5)] [(.int p1)])) _
              refine XS.aloadN X257.here hx rfl (hb hby d21_45) rfl rfl ?_
              show Steps p.tables e below (T257.setTop (mkF m 46 #[.val (.int p1), .val (.ref a1), .val (.ref a2), .val (.int p4), .val (.int p5)] [(.ref a1), (.int p1)])) _
              refine XT.iconstV X257.here hx rfl (2 : Int32) (hb hby d21_46) rfl ?_
              show Steps p.tables e below (T257.setTop (mkF m 47 #[.val (.int p1), .val (.ref a1), .val (.ref a2), .val (.int p4), .val (.int p5)] [(.int (2 : Int32)), (.ref a1), (.int p1)])) _
              refine OwnA.ldI X257 hx hZ e257 f258 (by decide) (by decide) rfl rfl (hb hby d21_47) ?_
              show Steps p.tables e below (T257.setTop (mkF m 48 #[.val (.int p1), .val (.ref a1), .val (.ref a2), .val (.int p4), .val (.int p5)] [(.int (ex (2 : Int32).toInt)), (.int p1)])) _
              by_cases c48_272 : p1 = (ex (2 : Int32).toInt)
              · refine XS.icmpYes X257.here hx rfl (pc0 := 48) (pc' := 64) rfl (hb hby d21_48) rfl (XT.ii_eq_t c48_272) (by decide) (by decide) ?_
                show Steps p.tables e below (T257.setTop (mkF m 64 #[.val (.int p1), .val (.ref a1), .val (.ref a2), .val (.int p4), .val (.int p5)] [])) _
                refine XT.iconstV X257.here hx rfl (1 : Int32) (hb hby d21_64) rfl ?_
                show Steps p.tables e below (T257.setTop (mkF m 65 #[.val (.int p1), .val (.ref a1), .val (.ref a2), .val (.int p4), .val (.int p5)] [(.int (1 : Int32))])) _
                refine XS.goto X257.here hx rfl (pc0 := 65) (pc' := 69) rfl (hb hby d21_65) (by decide) (by decide) ?_
                show Steps p.tables e below (T257.setTop (mkF m 69 #[.val (.int p1), .val (.ref a1), .val (.ref a2), .val (.int p4), .val (.int p5)] [(.int (1 : Int32))])) _
                rw [show w1 = (1 : Int32) from by rw [qw1, if_pos c15_260, if_neg c28_261, if_neg c35_268, if_neg c41_269, if_pos c48_272]] at k
                exact k
              · refine XS.icmpNo X257.here hx rfl (hb hby d21_48) rfl (XT.ii_eq_f c48_272) ?_
                show Steps p.tables e below (T257.setTop (mkF m 51 #[.val (.int p1), .val (.ref a1), .val (.ref a2), .val (.int p4), .val (.int p5)] [])) _
                refine XS.aloadN X257.here hx rfl (hb hby d21_51) rfl rfl ?_
                show Steps p.tables e below (T257.setTop (mkF m 52 #[.val (.int p1), .val (.ref a1), .val (.ref a2), .val (.int p4), .val (.int p5)] [(.ref a2)])) _
                refine XT.iconstV X257.here hx rfl (3 : Int32) (hb hby d21_52) rfl ?_
                show Steps p.tables e below (T257.setTop (mkF m 53 #[.val (.int p1), .val (.ref a1), .val (.ref a2), .val (.int p4), .val (.int p5)] [(.int (3 : Int32)), (.ref a2)])) _
                refine OwnA.ldZ X257 hx hZ e257 f259 (by decide) (by decide) rfl rfl (hb hby d21_53) ?_
                show Steps p.tables e below (T257.setTop (mkF m 54 #[.val (.int p1), .val (.ref a1), .val (.ref a2), .val (.int p4), .val (.int p5)] [(.int (on (3 : Int32).toInt))])) _
                by_cases c54_273 : (on (3 : Int32).toInt) = (0 : Int32)
                · refine XS.ifYes X257.here hx rfl (pc0 := 54) (pc' := 68) rfl (hb hby d21_54) rfl (XT.i0_eq_t c54_273) (by decide) (by decide) ?_
                  show Steps p.tables e below (T257.setTop (mkF m 68 #[.val (.int p1), .val (.ref a1), .val (.ref a2), .val (.int p4), .val (.int p5)] [])) _
                  refine XT.iconstV X257.here hx rfl (0 : Int32) (hb hby d21_68) rfl ?_
                  show Steps p.tables e below (T257.setTop (mkF m 69 #[.val (.int p1), .val (.ref a1), .val (.ref a2), .val (.int p4), .val (.int p5)] [(.int (0 : Int32))])) _
                  rw [show w1 = (0 : Int32) from by rw [qw1, if_pos c15_260, if_neg c28_261, if_neg c35_268, if_neg c41_269, if_neg c48_272, if_pos c54_273]] at k
                  exact k
                · refine XS.ifNo X257.here hx rfl (hb hby d21_54) rfl (XT.i0_eq_f c54_273) ?_
                  show Steps p.tables e below (T257.setTop (mkF m 57 #[.val (.int p1), .val (.ref a1), .val (.ref a2), .val (.int p4), .val (.int p5)] [])) _
                  refine XS.iloadN X257.here hx rfl (hb hby d21_57) rfl ?_
                  show Steps p.tables e below (T257.setTop (mkF m 58 #[.val (.int p1), .val (.ref a1), .val (.ref a2), .val (.int p4), .val (.int p5)] [(.int p1)])) _
                  refine XS.aloadN X257.here hx rfl (hb hby d21_58) rfl rfl ?_
                  show Steps p.tables e below (T257.setTop (mkF m 59 #[.val (.int p1), .val (.ref a1), .val (.ref a2), .val (.int p4), .val (.int p5)] [(.ref a1), (.int p1)])) _
                  refine XT.iconstV X257.here hx rfl (3 : Int32) (hb hby d21_59) rfl ?_
                  show Steps p.tables e below (T257.setTop (mkF m 60 #[.val (.int p1), .val (.ref a1), .val (.ref a2), .val (.int p4), .val (.int p5)] [(.int (3 : Int32)), (.ref a1), (.int p1)])) _
                  refine OwnA.ldI X257 hx hZ e257 f258 (by decide) (by decide) rfl rfl (hb hby d21_60) ?_
                  show Steps p.tables e below (T257.setTop (mkF m 61 #[.val (.int p1), .val (.ref a1), .val (.ref a2), .val (.int p4), .val (.int p5)] [(.int (ex (3 : Int32).toInt)), (.int p1)])) _
                  by_cases c61_274 : p1 = (ex (3 : Int32).toInt)
                  · refine XS.icmpNo X257.here hx rfl (hb hby d21_61) rfl (XT.ii_ne_f c61_274) ?_
                    show Steps p.tables e below (T257.setTop (mkF m 64 #[.val (.int p1), .val (.ref a1), .val (.ref a2), .val (.int p4), .val (.int p5)] [])) _
                    refine XT.iconstV X257.here hx rfl (1 : Int32) (hb hby d21_64) rfl ?_
                    show Steps p.tables e below (T257.setTop (mkF m 65 #[.val (.int p1), .val (.ref a1), .val (.ref a2), .val (.int p4), .val (.int p5)] [(.int (1 : Int32))])) _
                    refine XS.goto X257.here hx rfl (pc0 := 65) (pc' := 69) rfl (hb hby d21_65) (by decide) (by decide) ?_
                    show Steps p.tables e below (T257.setTop (mkF m 69 #[.val (.int p1), .val (.ref a1), .val (.ref a2), .val (.int p4), .val (.int p5)] [(.int (1 : Int32))])) _
                    rw [show w1 = (1 : Int32) from by rw [qw1, if_pos c15_260, if_neg c28_261, if_neg c35_268, if_neg c41_269, if_neg c48_272, if_neg c54_273, if_pos c61_274]] at k
                    exact k
                  · refine XS.icmpYes X257.here hx rfl (pc0 := 61) (pc' := 68) rfl (hb hby d21_61) rfl (XT.ii_ne_t c61_274) (by decide) (by decide) ?_
                    show Steps p.tables e below (T257.setTop (mkF m 68 #[.val (.int p1), .val (.ref a1), .val (.ref a2), .val (.int p4), .val (.int p5)] [])) _
                    refine XT.iconstV X257.here hx rfl (0 : Int32) (hb hby d21_68) rfl ?_
                    show Steps p.tables e below (T257.setTop (mkF m 69 #[.val (.int p1), .val (.ref a1), .val (.ref a2), .val (.int p4), .val (.int p5)] [(.int (0 : Int32))])) _
                    rw [show w1 = (0 : Int32) from by rw [qw1, if_pos c15_260, if_neg c28_261, if_neg c35_268, if_neg c41_269, if_neg c48_272, if_neg c54_273, if_neg c61_274]] at k
                    exact k
      · refine XS.ifNo X257.here hx rfl (hb hby d21_15) rfl (XT.i0_eq_f c15_260) ?_
        show Steps p.tables e below (T257.setTop (mkF m 18 #[.val (.int p1), .val (.ref a1), .val (.ref a2), .val (.int p4), .val (.int p5)] [])) _
        refine XS.iloadN X257.here hx rfl (hb hby d21_18) rfl ?_
        show Steps p.tables e below (T257.setTop (mkF m 19 #[.val (.int p1), .val (.ref a1), .val (.ref a2), .val (.int p4), .val (.int p5)] [(.int p1)])) _
        refine XS.aloadN X257.here hx rfl (hb hby d21_19) rfl rfl ?_
        show Steps p.tables e below (T257.setTop (mkF m 20 #[.val (.int p1), .val (.ref a1), .val (.ref a2), .val (.int p4), .val (.int p5)] [(.ref a1), (.int p1)])) _
        refine XT.iconstV X257.here hx rfl (0 : Int32) (hb hby d21_20) rfl ?_
        show Steps p.tables e below (T257.setTop (mkF m 21 #[.val (.int p1), .val (.ref a1), .val (.ref a2), .val (.int p4), .val (.int p5)] [(.int (0 : Int32)), (.ref a1), (.int p1)])) _
        refine OwnA.ldI X257 hx hZ e257 f258 (by decide) (by decide) rfl rfl (hb hby d21_21) ?_
        show Steps p.tables e below (T257.setTop (mkF m 22 #[.val (.int p1), .val (.ref a1), .val (.ref a2), .val (.int p4), .val (.int p5)] [(.int (ex (0 : Int32).toInt)), (.int p1)])) _
        by_cases c22_275 : p1 = (ex (0 : Int32).toInt)
        · refine XS.icmpYes X257.here hx rfl (pc0 := 22) (pc' := 64) rfl (hb hby d21_22) rfl (XT.ii_eq_t c22_275) (by decide) (by decide) ?_
          show Steps p.tables e below (T257.setTop (mkF m 64 #[.val (.int p1), .val (.ref a1), .val (.ref a2), .val (.int p4), .val (.int p5)] [])) _
          refine XT.iconstV X257.here hx rfl (1 : Int32) (hb hby d21_64) rfl ?_
          show Steps p.tables e below (T257.setTop (mkF m 65 #[.val (.int p1), .val (.ref a1), .val (.ref a2), .val (.int p4), .val (.int p5)] [(.int (1 : Int32))])) _
          refine XS.goto X257.here hx rfl (pc0 := 65) (pc' := 69) rfl (hb hby d21_65) (by decide) (by decide) ?_
          show Steps p.tables e below (T257.setTop (mkF m 69 #[.val (.int p1), .val (.ref a1), .val (.ref a2), .val (.int p4), .val (.int p5)] [(.int (1 : Int32))])) _
          rw [show w1 = (1 : Int32) from by rw [qw1, if_neg c15_260, if_pos c22_275]] at k
          exact k
        · refine XS.icmpNo X257.here hx rfl (hb hby d21_22) rfl (XT.ii_eq_f c22_275) ?_
          show Steps p.tables e below (T257.setTop (mkF m 25 #[.val (.int p1), .val (.ref a1), .val (.ref a2), .val (.int p4), .val (.int p5)] [])) _
          refine XS.aloadN X257.here hx rfl (hb hby d21_25) rfl rfl ?_
          show Steps p.tables e below (T257.setTop (mkF m 26 #[.val (.int p1), .val (.ref a1), .val (.ref a2), .val (.int p4), .val (.int p5)] [(.ref a2)])) _
          refine XT.iconstV X257.here hx rfl (1 : Int32) (hb hby d21_26) rfl ?_
          show Steps p.tables e below (T257.setTop (mkF m 27 #[.val (.int p1), .val (.ref a1), .val (.ref a2), .val (.int p4), .val (.int p5)] [(.int (1 : Int32)), (.ref a2)])) _
          refine OwnA.ldZ X257 hx hZ e257 f259 (by decide) (by decide) rfl rfl (hb hby d21_27) ?_
          show Steps p.tables e below (T257.setTop (mkF m 28 #[.val (.int p1), .val (.ref a1), .val (.ref a2), .val (.int p4), .val (.int p5)] [(.int (on (1 : Int32).toInt))])) _
          by_cases c28_276 : (on (1 : Int32).toInt) = (0 : Int32)
          · refine XS.ifYes X257.here hx rfl (pc0 := 28) (pc' := 38) rfl (hb hby d21_28) rfl (XT.i0_eq_t c28_276) (by decide) (by decide) ?_
            show Steps p.tables e below (T257.setTop (mkF m 38 #[.val (.int p1), .val (.ref a1), .val (.ref a2), .val (.int p4), .val (.int p5)] [])) _
            refine XS.aloadN X257.here hx rfl (hb hby d21_38) rfl rfl ?_
            show Steps p.tables e below (T257.setTop (mkF m 39 #[.val (.int p1), .val (.ref a1), .val (.ref a2), .val (.int p4), .val (.int p5)] [(.ref a2)])) _
            refine XT.iconstV X257.here hx rfl (2 : Int32) (hb hby d21_39) rfl ?_
            show Steps p.tables e below (T257.setTop (mkF m 40 #[.val (.int p1), .val (.ref a1), .val (.ref a2), .val (.int p4), .val (.int p5)] [(.int (2 : Int32)), (.ref a2)])) _
            refine OwnA.ldZ X257 hx hZ e257 f259 (by decide) (by decide) rfl rfl (hb hby d21_40) ?_
            show Steps p.tables e below (T257.setTop (mkF m 41 #[.val (.int p1), .val (.ref a1), .val (.ref a2), .val (.int p4), .val (.int p5)] [(.int (on (2 : Int32).toInt))])) _
            by_cases c41_277 : (on (2 : Int32).toInt) = (0 : Int32)
            · refine XS.ifYes X257.here hx rfl (pc0 := 41) (pc' := 51) rfl (hb hby d21_41) rfl (XT.i0_eq_t c41_277) (by decide) (by decide) ?_
              show Steps p.tables e below (T257.setTop (mkF m 51 #[.val (.int p1), .val (.ref a1), .val (.ref a2), .val (.int p4), .val (.int p5)] [])) _
              refine XS.aloadN X257.here hx rfl (hb hby d21_51) rfl rfl ?_
              show Steps p.tables e below (T257.setTop (mkF m 52 #[.val (.int p1), .val (.ref a1), .val (.ref a2), .val (.int p4), .val (.int p5)] [(.ref a2)])) _
              refine XT.iconstV X257.here hx rfl (3 : Int32) (hb hby d21_52) rfl ?_
              show Steps p.tables e below (T257.setTop (mkF m 53 #[.val (.int p1), .val (.ref a1), .val (.ref a2), .val (.int p4), .val (.int p5)] [(.int (3 : Int32)), (.ref a2)])) _
              refine OwnA.ldZ X257 hx hZ e257 f259 (by decide) (by decide) rfl rfl (hb hby d21_53) ?_
              show Steps p.tables e below (T257.setTop (mkF m 54 #[.val (.int p1), .val (.ref a1), .val (.ref a2), .val (.int p4), .val (.int p5)] [(.int (on (3 : Int32).toInt))])) _
              by_cases c54_278 : (on (3 : Int32).toInt) = (0 : Int32)
              · refine XS.ifYes X257.here hx rfl (pc0 := 54) (pc' := 68) rfl (hb hby d21_54) rfl (XT.i0_eq_t c54_278) (by decide) (by decide) ?_
                show Steps p.tables e below (T257.setTop (mkF m 68 #[.val (.int p1), .val (.ref a1), .val (.ref a2), .val (.int p4), .val (.int p5)] [])) _
                refine XT.iconstV X257.here hx rfl (0 : Int32) (hb hby d21_68) rfl ?_
                show Steps p.tables e below (T257.setTop (mkF m 69 #[.val (.int p1), .val (.ref a1), .val (.ref a2), .val (.int p4), .val (.int p5)] [(.int (0 : Int32))])) _
                rw [show w1 = (0 : Int32) from by rw [qw1, if_neg c15_260, if_neg c22_275, if_pos c28_276, if_pos c41_277, if_pos c54_278]] at k
                exact k
              · refine XS.ifNo X257.here hx rfl (hb hby d21_54) rfl (XT.i0_eq_f c54_278) ?_
                show Steps p.tables e below (T257.setTop (mkF m 57 #[.val (.int p1), .val (.ref a1), .val (.ref a2), .val (.int p4), .val (.int p5)] [])) _
                refine XS.iloadN X257.here hx rfl (hb hby d21_57) rfl ?_
                show Steps p.tables e below (T257.setTop (mkF m 58 #[.val (.int p1), .val (.ref a1), .val (.ref a2), .val (.int p4), .val (.int p5)] [(.int p1)])) _
                refine XS.aloadN X257.here hx rfl (hb hby d21_58) rfl rfl ?_
                show Steps p.tables e below (T257.setTop (mkF m 59 #[.val (.int p1), .val (.ref a1), .val (.ref a2), .val (.int p4), .val (.int p5)] [(.ref a1), (.int p1)])) _
                refine XT.iconstV X257.here hx rfl (3 : Int32) (hb hby d21_59) rfl ?_
                show Steps p.tables e below (T257.setTop (mkF m 60 #[.val (.int p1), .val (.ref a1), .val (.ref a2), .val (.int p4), .val (.int p5)] [(.int (3 : Int32)), (.ref a1), (.int p1)])) _
                refine OwnA.ldI X257 hx hZ e257 f258 (by decide) (by decide) rfl rfl (hb hby d21_60) ?_
                show Steps p.tables e below (T257.setTop (mkF m 61 #[.val (.int p1), .val (.ref a1), .val (.ref a2), .val (.int p4), .val (.int p5)] [(.int (ex (3 : Int32).toInt)), (.int p1)])) _
                by_cases c61_279 : p1 = (ex (3 : Int32).toInt)
                · refine XS.icmpNo X257.here hx rfl (hb hby d21_61) rfl (XT.ii_ne_f c61_279) ?_
                  show Steps p.tables e below (T257.setTop (mkF m 64 #[.val (.int p1), .val (.ref a1), .val (.ref a2), .val (.int p4), .val (.int p5)] [])) _
                  refine XT.iconstV X257.here hx rfl (1 : Int32) (hb hby d21_64) rfl ?_
                  show Steps p.tables e below (T257.setTop (mkF m 65 #[.val (.int p1), .val (.ref a1), .val (.ref a2), .val (.int p4), .val (.int p5)] [(.int (1 : Int32))])) _
                  refine XS.goto X257.here hx rfl (pc0 := 65) (pc' := 69) rfl (hb hby d21_65) (by decide) (by decide) ?_
                  show Steps p.tables e below (T257.setTop (mkF m 69 #[.val (.int p1), .val (.ref a1), .val (.ref a2), .val (.int p4), .val (.int p5)] [(.int (1 : Int32))])) _
                  rw [show w1 = (1 : Int32) from by rw [qw1, if_neg c15_260, if_neg c22_275, if_pos c28_276, if_pos c41_277, if_neg c54_278, if_pos c61_279]] at k
                  exact k
                · refine XS.icmpYes X257.here hx rfl (pc0 := 61) (pc' := 68) rfl (hb hby d21_61) rfl (XT.ii_ne_t c61_279) (by decide) (by decide) ?_
                  show Steps p.tables e below (T257.setTop (mkF m 68 #[.val (.int p1), .val (.ref a1), .val (.ref a2), .val (.int p4), .val (.int p5)] [])) _
                  refine XT.iconstV X257.here hx rfl (0 : Int32) (hb hby d21_68) rfl ?_
                  show Steps p.tables e below (T257.setTop (mkF m 69 #[.val (.int p1), .val (.ref a1), .val (.ref a2), .val (.int p4), .val (.int p5)] [(.int (0 : Int32))])) _
                  rw [show w1 = (0 : Int32) from by rw [qw1, if_neg c15_260, if_neg c22_275, if_pos c28_276, if_pos c41_277, if_neg c54_278, if_neg c61_279]] at k
                  exact k
            · refine XS.ifNo X257.here hx rfl (hb hby d21_41) rfl (XT.i0_eq_f c41_277) ?_
              show Steps p.tables e below (T257.setTop (mkF m 44 #[.val (.int p1), .val (.ref a1), .val (.ref a2), .val (.int p4), .val (.int p5)] [])) _
              refine XS.iloadN X257.here hx rfl (hb hby d21_44) rfl ?_
              show Steps p.tables e below (T257.setTop (mkF m 45 #[.val (.int p1), .val (.ref a1), .val (.ref a2), .val (.int p4), .val (.int p5)] [(.int p1)])) _
              refine XS.aloadN X257.here hx rfl (hb hby d21_45) rfl rfl ?_
              show Steps p.tables e below (T257.setTop (mkF m 46 #[.val (.int p1), .val (.ref a1), .val (.ref a2), .val (.int p4), .val (.int p5)] [(.ref a1), (.int p1)])) _
              refine XT.iconstV X257.here hx rfl (2 : Int32) (hb hby d21_46) rfl ?_
              show Steps p.tables e below (T257.setTop (mkF m 47 #[.val (.int p1), .val (.ref a1), .val (.ref a2), .val (.int p4), .val (.int p5)] [(.int (2 : Int32)), (.ref a1), (.int p1)])) _
              refine OwnA.ldI X257 hx hZ e257 f258 (by decide) (by decide) rfl rfl (hb hby d21_47) ?_
              show Steps p.tables e below (T257.setTop (mkF m 48 #[.val (.int p1), .val (.ref a1), .val (.ref a2), .val (.int p4), .val (.int p5)] [(.int (ex (2 : Int32).toInt)), (.int p1)])) _
              by_cases c48_280 : p1 = (ex (2 : Int32).toInt)
              · refine XS.icmpYes X257.here hx rfl (pc0 := 48) (pc' := 64) rfl (hb hby d21_48) rfl (XT.ii_eq_t c48_280) (by decide) (by decide) ?_
                show Steps p.tables e below (T257.setTop (mkF m 64 #[.val (.int p1), .val (.ref a1), .val (.ref a2), .val (.int p4), .val (.int p5)] [])) _
                refine XT.iconstV X257.here hx rfl (1 : Int32) (hb hby d21_64) rfl ?_
                show Steps p.tables e below (T257.setTop (mkF m 65 #[.val (.int p1), .val (.ref a1), .val (.ref a2), .val (.int p4), .val (.int p5)] [(.int (1 : Int32))])) _
                refine XS.goto X257.here hx rfl (pc0 := 65) (pc' := 69) rfl (hb hby d21_65) (by decide) (by decide) ?_
                show Steps p.tables e below (T257.setTop (mkF m 69 #[.val (.int p1), .val (.ref a1), .val (.ref a2), .val (.int p4), .val (.int p5)] [(.int (1 : Int32))])) _
                rw [show w1 = (1 : Int32) from by rw [qw1, if_neg c15_260, if_neg c22_275, if_pos c28_276, if_neg c41_277, if_pos c48_280]] at k
                exact k
              · refine XS.icmpNo X257.here hx rfl (hb hby d21_48) rfl (XT.ii_eq_f c48_280) ?_
                show Steps p.tables e below (T257.setTop (mkF m 51 #[.val (.int p1), .val (.ref a1), .val (.ref a2), .val (.int p4), .val (.int p5)] [])) _
                refine XS.aloadN X257.here hx rfl (hb hby d21_51) rfl rfl ?_
                show Steps p.tables e below (T257.setTop (mkF m 52 #[.val (.int p1), .val (.ref a1), .val (.ref a2), .val (.int p4), .val (.int p5)] [(.ref a2)])) _
                refine XT.iconstV X257.here hx rfl (3 : Int32) (hb hby d21_52) rfl ?_
                show Steps p.tables e below (T257.setTop (mkF m 53 #[.val (.int p1), .val (.ref a1), .val (.ref a2), .val (.int p4), .val (.int p5)] [(.int (3 : Int32)), (.ref a2)])) _
                refine OwnA.ldZ X257 hx hZ e257 f259 (by decide) (by decide) rfl rfl (hb hby d21_53) ?_
                show Steps p.tables e below (T257.setTop (mkF m 54 #[.val (.int p1), .val (.ref a1), .val (.ref a2), .val (.int p4), .val (.int p5)] [(.int (on (3 : Int32).toInt))])) _
                by_cases c54_281 : (on (3 : Int32).toInt) = (0 : Int32)
                · refine XS.ifYes X257.here hx rfl (pc0 := 54) (pc' := 68) rfl (hb hby d21_54) rfl (XT.i0_eq_t c54_281) (by decide) (by decide) ?_
                  show Steps p.tables e below (T257.setTop (mkF m 68 #[.val (.int p1), .val (.ref a1), .val (.ref a2), .val (.int p4), .val (.int p5)] [])) _
                  refine XT.iconstV X257.here hx rfl (0 : Int32) (hb hby d21_68) rfl ?_
                  show Steps p.tables e below (T257.setTop (mkF m 69 #[.val (.int p1), .val (.ref a1), .val (.ref a2), .val (.int p4), .val (.int p5)] [(.int (0 : Int32))])) _
                  rw [show w1 = (0 : Int32) from by rw [qw1, if_neg c15_260, if_neg c22_275, if_pos c28_276, if_neg c41_277, if_neg c48_280, if_pos c54_281]] at k
                  exact k
                · refine XS.ifNo X257.here hx rfl (hb hby d21_54) rfl (XT.i0_eq_f c54_281) ?_
                  show Steps p.tables e below (T257.setTop (mkF m 57 #[.val (.int p1), .val (.ref a1), .val (.ref a2), .val (.int p4), .val (.int p5)] [])) _
                  refine XS.iloadN X257.here hx rfl (hb hby d21_57) rfl ?_
                  show Steps p.tables e below (T257.setTop (mkF m 58 #[.val (.int p1), .val (.ref a1), .val (.ref a2), .val (.int p4), .val (.int p5)] [(.int p1)])) _
                  refine XS.aloadN X257.here hx rfl (hb hby d21_58) rfl rfl ?_
                  show Steps p.tables e below (T257.setTop (mkF m 59 #[.val (.int p1), .val (.ref a1), .val (.ref a2), .val (.int p4), .val (.int p5)] [(.ref a1), (.int p1)])) _
                  refine XT.iconstV X257.here hx rfl (3 : Int32) (hb hby d21_59) rfl ?_
                  show Steps p.tables e below (T257.setTop (mkF m 60 #[.val (.int p1), .val (.ref a1), .val (.ref a2), .val (.int p4), .val (.int p5)] [(.int (3 : Int32)), (.ref a1), (.int p1)])) _
                  refine OwnA.ldI X257 hx hZ e257 f258 (by decide) (by decide) rfl rfl (hb hby d21_60) ?_
                  show Steps p.tables e below (T257.setTop (mkF m 61 #[.val (.int p1), .val (.ref a1), .val (.ref a2), .val (.int p4), .val (.int p5)] [(.int (ex (3 : Int32).toInt)), (.int p1)])) _
                  by_cases c61_282 : p1 = (ex (3 : Int32).toInt)
                  · refine XS.icmpNo X257.here hx rfl (hb hby d21_61) rfl (XT.ii_ne_f c61_282) ?_
                    show Steps p.tables e below (T257.setTop (mkF m 64 #[.val (.int p1), .val (.ref a1), .val (.ref a2), .val (.int p4), .val (.int p5)] [])) _
                    refine XT.iconstV X257.here hx rfl (1 : Int32) (hb hby d21_64) rfl ?_
                    show Steps p.tables e below (T257.setTop (mkF m 65 #[.val (.int p1), .val (.ref a1), .val (.ref a2), .val (.int p4), .val (.int p5)] [(.int (1 : Int32))])) _
                    refine XS.goto X257.here hx rfl (pc0 := 65) (pc' := 69) rfl (hb hby d21_65) (by decide) (by decide) ?_
                    show Steps p.tables e below (T257.setTop (mkF m 69 #[.val (.int p1), .val (.ref a1), .val (.ref a2), .val (.int p4), .val (.int p5)] [(.int (1 : Int32))])) _
                    rw [show w1 = (1 : Int32) from by rw [qw1, if_neg c15_260, if_neg c22_275, if_pos c28_276, if_neg c41_277, if_neg c48_280, if_neg c54_281, if_pos c61_282]] at k
                    exact k
                  · refine XS.icmpYes X257.here hx rfl (pc0 := 61) (pc' := 68) rfl (hb hby d21_61) rfl (XT.ii_ne_t c61_282) (by decide) (by decide) ?_
                    show Steps p.tables e below (T257.setTop (mkF m 68 #[.val (.int p1), .val (.ref a1), .val (.ref a2), .val (.int p4), .val (.int p5)] [])) _
                    refine XT.iconstV X257.here hx rfl (0 : Int32) (hb hby d21_68) rfl ?_
                    show Steps p.tables e below (T257.setTop (mkF m 69 #[.val (.int p1), .val (.ref a1), .val (.ref a2), .val (.int p4), .val (.int p5)] [(.int (0 : Int32))])) _
                    rw [show w1 = (0 : Int32) from by rw [qw1, if_neg c15_260, if_neg c22_275, if_pos c28_276, if_neg c41_277, if_neg c48_280, if_neg c54_281, if_neg c61_282]] at k
                    exact k
          · refine XS.ifNo X257.here hx rfl (hb hby d21_28) rfl (XT.i0_eq_f c28_276) ?_
            show Steps p.tables e below (T257.setTop (mkF m 31 #[.val (.int p1), .val (.ref a1), .val (.ref a2), .val (.int p4), .val (.int p5)] [])) _
            refine XS.iloadN X257.here hx rfl (hb hby d21_31) rfl ?_
            show Steps p.tables e below (T257.setTop (mkF m 32 #[.val (.int p1), .val (.ref a1), .val (.ref a2), .val (.int p4), .val (.int p5)] [(.int p1)])) _
            refine XS.aloadN X257.here hx rfl (hb hby d21_32) rfl rfl ?_
            show Steps p.tables e below (T257.setTop (mkF m 33 #[.val (.int p1), .val (.ref a1), .val (.ref a2), .val (.int p4), .val (.int p5)] [(.ref a1), (.int p1)])) _
            refine XT.iconstV X257.here hx rfl (1 : Int32) (hb hby d21_33) rfl ?_
            show Steps p.tables e below (T257.setTop (mkF m 34 #[.val (.int p1), .val (.ref a1), .val (.ref a2), .val (.int p4), .val (.int p5)] [(.int (1 : Int32)), (.ref a1), (.int p1)])) _
            refine OwnA.ldI X257 hx hZ e257 f258 (by decide) (by decide) rfl rfl (hb hby d21_34) ?_
            show Steps p.tables e below (T257.setTop (mkF m 35 #[.val (.int p1), .val (.ref a1), .val (.ref a2), .val (.int p4), .val (.int p5)] [(.int (ex (1 : Int32).toInt)), (.int p1)])) _
            by_cases c35_283 : p1 = (ex (1 : Int32).toInt)
            · refine XS.icmpYes X257.here hx rfl (pc0 := 35) (pc' := 64) rfl (hb hby d21_35) rfl (XT.ii_eq_t c35_283) (by decide) (by decide) ?_
              show Steps p.tables e below (T257.setTop (mkF m 64 #[.val (.int p1), .val (.ref a1), .val (.ref a2), .val (.int p4), .val (.int p5)] [])) _
              refine XT.iconstV X257.here hx rfl (1 : Int32) (hb hby d21_64) rfl ?_
              show Steps p.tables e below (T257.setTop (mkF m 65 #[.val (.int p1), .val (.ref a1), .val (.ref a2), .val (.int p4), .val (.int p5)] [(.int (1 : Int32))])) _
              refine XS.goto X257.here hx rfl (pc0 := 65) (pc' := 69) rfl (hb hby d21_65) (by decide) (by decide) ?_
              show Steps p.tables e below (T257.setTop (mkF m 69 #[.val (.int p1), .val (.ref a1), .val (.ref a2), .val (.int p4), .val (.int p5)] [(.int (1 : Int32))])) _
              rw [show w1 = (1 : Int32) from by rw [qw1, if_neg c15_260, if_neg c22_275, if_neg c28_276, if_pos c35_283]] at k
              exact k
            · refine XS.icmpNo X257.here hx rfl (hb hby d21_35) rfl (XT.ii_eq_f c35_283) ?_
              show Steps p.tables e below (T257.setTop (mkF m 38 #[.val (.int p1), .val (.ref a1), .val (.ref a2), .val (.int p4), .val (.int p5)] [])) _
              refine XS.aloadN X257.here hx rfl (hb hby d21_38) rfl rfl ?_
              show Steps p.tables e below (T257.setTop (mkF m 39 #[.val (.int p1), .val (.ref a1), .val (.ref a2), .val (.int p4), .val (.int p5)] [(.ref a2)])) _
              refine XT.iconstV X257.here hx rfl (2 : Int32) (hb hby d21_39) rfl ?_
              show Steps p.tables e below (T257.setTop (mkF m 40 #[.val (.int p1), .val (.ref a1), .val (.ref a2), .val (.int p4), .val (.int p5)] [(.int (2 : Int32)), (.ref a2)])) _
              refine OwnA.ldZ X257 hx hZ e257 f259 (by decide) (by decide) rfl rfl (hb hby d21_40) ?_
              show Steps p.tables e below (T257.setTop (mkF m 41 #[.val (.int p1), .val (.ref a1), .val (.ref a2), .val (.int p4), .val (.int p5)] [(.int (on (2 : Int32).toInt))])) _
              by_cases c41_284 : (on (2 : Int32).toInt) = (0 : Int32)
              · refine XS.ifYes X257.here hx rfl (pc0 := 41) (pc' := 51) rfl (hb hby d21_41) rfl (XT.i0_eq_t c41_284) (by decide) (by decide) ?_
                show Steps p.tables e below (T257.setTop (mkF m 51 #[.val (.int p1), .val (.ref a1), .val (.ref a2), .val (.int p4), .val (.int p5)] [])) _
                refine XS.aloadN X257.here hx rfl (hb hby d21_51) rfl rfl ?_
                show Steps p.tables e below (T257.setTop (mkF m 52 #[.val (.int p1), .val (.ref a1), .val (.ref a2), .val (.int p4), .val (.int p5)] [(.ref a2)])) _
                refine XT.iconstV X257.here hx rfl (3 : Int32) (hb hby d21_52) rfl ?_
                show Steps p.tables e below (T257.setTop (mkF m 53 #[.val (.int p1), .val (.ref a1), .val (.ref a2), .val (.int p4), .val (.int p5)] [(.int (3 : Int32)), (.ref a2)])) _
                refine OwnA.ldZ X257 hx hZ e257 f259 (by decide) (by decide) rfl rfl (hb hby d21_53) ?_
                show Steps p.tables e below (T257.setTop (mkF m 54 #[.val (.int p1), .val (.ref a1), .val (.ref a2), .val (.int p4), .val (.int p5)] [(.int (on (3 : Int32).toInt))])) _
                by_cases c54_285 : (on (3 : Int32).toInt) = (0 : Int32)
                · refine XS.ifYes X257.here hx rfl (pc0 := 54) (pc' := 68) rfl (hb hby d21_54) rfl (XT.i0_eq_t c54_285) (by decide) (by decide) ?_
                  show Steps p.tables e below (T257.setTop (mkF m 68 #[.val (.int p1), .val (.ref a1), .val (.ref a2), .val (.int p4), .val (.int p5)] [])) _
                  refine XT.iconstV X257.here hx rfl (0 : Int32) (hb hby d21_68) rfl ?_
                  show Steps p.tables e below (T257.setTop (mkF m 69 #[.val (.int p1), .val (.ref a1), .val (.ref a2), .val (.int p4), .val (.int p5)] [(.int (0 : Int32))])) _
                  rw [show w1 = (0 : Int32) from by rw [qw1, if_neg c15_260, if_neg c22_275, if_neg c28_276, if_neg c35_283, if_pos c41_284, if_pos c54_285]] at k
                  exact k
                · refine XS.ifNo X257.here hx rfl (hb hby d21_54) rfl (XT.i0_eq_f c54_285) ?_
                  show Steps p.tables e below (T257.setTop (mkF m 57 #[.val (.int p1), .val (.ref a1), .val (.ref a2), .val (.int p4), .val (.int p5)] [])) _
                  refine XS.iloadN X257.here hx rfl (hb hby d21_57) rfl ?_
                  show Steps p.tables e below (T257.setTop (mkF m 58 #[.val (.int p1), .val (.ref a1), .val (.ref a2), .val (.int p4), .val (.int p5)] [(.int p1)])) _
                  refine XS.aloadN X257.here hx rfl (hb hby d21_58) rfl rfl ?_
                  show Steps p.tables e below (T257.setTop (mkF m 59 #[.val (.int p1), .val (.ref a1), .val (.ref a2), .val (.int p4), .val (.int p5)] [(.ref a1), (.int p1)])) _
                  refine XT.iconstV X257.here hx rfl (3 : Int32) (hb hby d21_59) rfl ?_
                  show Steps p.tables e below (T257.setTop (mkF m 60 #[.val (.int p1), .val (.ref a1), .val (.ref a2), .val (.int p4), .val (.int p5)] [(.int (3 : Int32)), (.ref a1), (.int p1)])) _
                  refine OwnA.ldI X257 hx hZ e257 f258 (by decide) (by decide) rfl rfl (hb hby d21_60) ?_
                  show Steps p.tables e below (T257.setTop (mkF m 61 #[.val (.int p1), .val (.ref a1), .val (.ref a2), .val (.int p4), .val (.int p5)] [(.int (ex (3 : Int32).toInt)), (.int p1)])) _
                  by_cases c61_286 : p1 = (ex (3 : Int32).toInt)
                  · refine XS.icmpNo X257.here hx rfl (hb hby d21_61) rfl (XT.ii_ne_f c61_286) ?_
                    show Steps p.tables e below (T257.setTop (mkF m 64 #[.val (.int p1), .val (.ref a1), .val (.ref a2), .val (.int p4), .val (.int p5)] [])) _
                    refine XT.iconstV X257.here hx rfl (1 : Int32) (hb hby d21_64) rfl ?_
                    show Steps p.tables e below (T257.setTop (mkF m 65 #[.val (.int p1), .val (.ref a1), .val (.ref a2), .val (.int p4), .val (.int p5)] [(.int (1 : Int32))])) _
                    refine XS.goto X257.here hx rfl (pc0 := 65) (pc' := 69) rfl (hb hby d21_65) (by decide) (by decide) ?_
                    show Steps p.tables e below (T257.setTop (mkF m 69 #[.val (.int p1), .val (.ref a1), .val (.ref a2), .val (.int p4), .val (.int p5)] [(.int (1 : Int32))])) _
                    rw [show w1 = (1 : Int32) from by rw [qw1, if_neg c15_260, if_neg c22_275, if_neg c28_276, if_neg c35_283, if_pos c41_284, if_neg c54_285, if_pos c61_286]] at k
                    exact k
                  · refine XS.icmpYes X257.here hx rfl (pc0 := 61) (pc' := 68) rfl (hb hby d21_61) rfl (XT.ii_ne_t c61_286) (by decide) (by decide) ?_
                    show Steps p.tables e below (T257.setTop (mkF m 68 #[.val (.int p1), .val (.ref a1), .val (.ref a2), .val (.int p4), .val (.int p5)] [])) _
                    refine XT.iconstV X257.here hx rfl (0 : Int32) (hb hby d21_68) rfl ?_
                    show Steps p.tables e below (T257.setTop (mkF m 69 #[.val (.int p1), .val (.ref a1), .val (.ref a2), .val (.int p4), .val (.int p5)] [(.int (0 : Int32))])) _
                    rw [show w1 = (0 : Int32) from by rw [qw1, if_neg c15_260, if_neg c22_275, if_neg c28_276, if_neg c35_283, if_pos c41_284, if_neg c54_285, if_neg c61_286]] at k
                    exact k
              · refine XS.ifNo X257.here hx rfl (hb hby d21_41) rfl (XT.i0_eq_f c41_284) ?_
                show Steps p.tables e below (T257.setTop (mkF m 44 #[.val (.int p1), .val (.ref a1), .val (.ref a2), .val (.int p4), .val (.int p5)] [])) _
                refine XS.iloadN X257.here hx rfl (hb hby d21_44) rfl ?_
                show Steps p.tables e below (T257.setTop (mkF m 45 #[.val (.int p1), .val (.ref a1), .val (.ref a2), .val (.int p4), .val (.int p5)] [(.int p1)])) _
                refine XS.aloadN X257.here hx rfl (hb hby d21_45) rfl rfl ?_
                show Steps p.tables e below (T257.setTop (mkF m 46 #[.val (.int p1), .val (.ref a1), .val (.ref a2), .val (.int p4), .val (.int p5)] [(.ref a1), (.int p1)])) _
                refine XT.iconstV X257.here hx rfl (2 : Int32) (hb hby d21_46) rfl ?_
                show Steps p.tables e below (T257.setTop (mkF m 47 #[.val (.int p1), .val (.ref a1), .val (.ref a2), .val (.int p4), .val (.int p5)] [(.int (2 : Int32)), (.ref a1), (.int p1)])) _
                refine OwnA.ldI X257 hx hZ e257 f258 (by decide) (by decide) rfl rfl (hb hby d21_47) ?_
                show Steps p.tables e below (T257.setTop (mkF m 48 #[.val (.int p1), .val (.ref a1), .val (.ref a2), .val (.int p4), .val (.int p5)] [(.int (ex (2 : Int32).toInt)), (.int p1)])) _
                by_cases c48_287 : p1 = (ex (2 : Int32).toInt)
                · refine XS.icmpYes X257.here hx rfl (pc0 := 48) (pc' := 64) rfl (hb hby d21_48) rfl (XT.ii_eq_t c48_287) (by decide) (by decide) ?_
                  show Steps p.tables e below (T257.setTop (mkF m 64 #[.val (.int p1), .val (.ref a1), .val (.ref a2), .val (.int p4), .val (.int p5)] [])) _
                  refine XT.iconstV X257.here hx rfl (1 : Int32) (hb hby d21_64) rfl ?_
                  show Steps p.tables e below (T257.setTop (mkF m 65 #[.val (.int p1), .val (.ref a1), .val (.ref a2), .val (.int p4), .val (.int p5)] [(.int (1 : Int32))])) _
                  refine XS.goto X257.here hx rfl (pc0 := 65) (pc' := 69) rfl (hb hby d21_65) (by decide) (by decide) ?_
                  show Steps p.tables e below (T257.setTop (mkF m 69 #[.val (.int p1), .val (.ref a1), .val (.ref a2), .val (.int p4), .val (.int p5)] [(.int (1 : Int32))])) _
                  rw [show w1 = (1 : Int32) from by rw [qw1, if_neg c15_260, if_neg c22_275, if_neg c28_276, if_neg c35_283, if_neg c41_284, if_pos c48_287]] at k
                  exact k
                · refine XS.icmpNo X257.here hx rfl (hb hby d21_48) rfl (XT.ii_eq_f c48_287) ?_
                  show Steps p.tables e below (T257.setTop (mkF m 51 #[.val (.int p1), .val (.ref a1), .val (.ref a2), .val (.int p4), .val (.int p5)] [])) _
                  refine XS.aloadN X257.here hx rfl (hb hby d21_51) rfl rfl ?_
                  show Steps p.tables e below (T257.setTop (mkF m 52 #[.val (.int p1), .val (.ref a1), .val (.ref a2), .val (.int p4), .val (.int p5)] [(.ref a2)])) _
                  refine XT.iconstV X257.here hx rfl (3 : Int32) (hb hby d21_52) rfl ?_
                  show Steps p.tables e below (T257.setTop (mkF m 53 #[.val (.int p1), .val (.ref a1), .val (.ref a2), .val (.int p4), .val (.int p5)] [(.int (3 : Int32)), (.ref a2)])) _
                  refine OwnA.ldZ X257 hx hZ e257 f259 (by decide) (by decide) rfl rfl (hb hby d21_53) ?_
                  show Steps p.tables e below (T257.setTop (mkF m 54 #[.val (.int p1), .val (.ref a1), .val (.ref a2), .val (.int p4), .val (.int p5)] [(.int (on (3 : Int32).toInt))])) _
                  by_cases c54_288 : (on (3 : Int32).toInt) = (0 : Int32)
                  · refine XS.ifYes X257.here hx rfl (pc0 := 54) (pc' := 68) rfl (hb hby d21_54) rfl (XT.i0_eq_t c54_288) (by decide) (by decide) ?_
                    show Steps p.tables e below (T257.setTop (mkF m 68 #[.val (.int p1), .val (.ref a1), .val (.ref a2), .val (.int p4), .val (.int p5)] [])) _
                    refine XT.iconstV X257.here hx rfl (0 : Int32) (hb hby d21_68) rfl ?_
                    show Steps p.tables e below (T257.setTop (mkF m 69 #[.val (.int p1), .val (.ref a1), .val (.ref a2), .val (.int p4), .val (.int p5)] [(.int (0 : Int32))])) _
                    rw [show w1 = (0 : Int32) from by rw [qw1, if_neg c15_260, if_neg c22_275, if_neg c28_276, if_neg c35_283, if_neg c41_284, if_neg c48_287, if_pos c54_288]] at k
                    exact k
                  · refine XS.ifNo X257.here hx rfl (hb hby d21_54) rfl (XT.i0_eq_f c54_288) ?_
                    show Steps p.tables e below (T257.setTop (mkF m 57 #[.val (.int p1), .val (.ref a1), .val (.ref a2), .val (.int p4), .val (.int p5)] [])) _
                    refine XS.iloadN X257.here hx rfl (hb hby d21_57) rfl ?_
                    show Steps p.tables e below (T257.setTop (mkF m 58 #[.val (.int p1), .val (.ref a1), .val (.ref a2), .val (.int p4), .val (.int p5)] [(.int p1)])) _
                    refine XS.aloadN X257.here hx rfl (hb hby d21_58) rfl rfl ?_
                    show Steps p.tables e below (T257.setTop (mkF m 59 #[.val (.int p1), .val (.ref a1), .val (.ref a2), .val (.int p4), .val (.int p5)] [(.ref a1), (.int p1)])) _
                    refine XT.iconstV X257.here hx rfl (3 : Int32) (hb hby d21_59) rfl ?_
                    show Steps p.tables e below (T257.setTop (mkF m 60 #[.val (.int p1), .val (.ref a1), .val (.ref a2), .val (.int p4), .val (.int p5)] [(.int (3 : Int32)), (.ref a1), (.int p1)])) _
                    refine OwnA.ldI X257 hx hZ e257 f258 (by decide) (by decide) rfl rfl (hb hby d21_60) ?_
                    show Steps p.tables e below (T257.setTop (mkF m 61 #[.val (.int p1), .val (.ref a1), .val (.ref a2), .val (.int p4), .val (.int p5)] [(.int (ex (3 : Int32).toInt)), (.int p1)])) _
                    by_cases c61_289 : p1 = (ex (3 : Int32).toInt)
                    · refine XS.icmpNo X257.here hx rfl (hb hby d21_61) rfl (XT.ii_ne_f c61_289) ?_
                      show Steps p.tables e below (T257.setTop (mkF m 64 #[.val (.int p1), .val (.ref a1), .val (.ref a2), .val (.int p4), .val (.int p5)] [])) _
                      refine XT.iconstV X257.here hx rfl (1 : Int32) (hb hby d21_64) rfl ?_
                      show Steps p.tables e below (T257.setTop (mkF m 65 #[.val (.int p1), .val (.ref a1), .val (.ref a2), .val (.int p4), .val (.int p5)] [(.int (1 : Int32))])) _
                      refine XS.goto X257.here hx rfl (pc0 := 65) (pc' := 69) rfl (hb hby d21_65) (by decide) (by decide) ?_
                      show Steps p.tables e below (T257.setTop (mkF m 69 #[.val (.int p1), .val (.ref a1), .val (.ref a2), .val (.int p4), .val (.int p5)] [(.int (1 : Int32))])) _
                      rw [show w1 = (1 : Int32) from by rw [qw1, if_neg c15_260, if_neg c22_275, if_neg c28_276, if_neg c35_283, if_neg c41_284, if_neg c48_287, if_neg c54_288, if_pos c61_289]] at k
                      exact k
                    · refine XS.icmpYes X257.here hx rfl (pc0 := 61) (pc' := 68) rfl (hb hby d21_61) rfl (XT.ii_ne_t c61_289) (by decide) (by decide) ?_
                      show Steps p.tables e below (T257.setTop (mkF m 68 #[.val (.int p1), .val (.ref a1), .val (.ref a2), .val (.int p4), .val (.int p5)] [])) _
                      refine XT.iconstV X257.here hx rfl (0 : Int32) (hb hby d21_68) rfl ?_
                      show Steps p.tables e below (T257.setTop (mkF m 69 #[.val (.int p1), .val (.ref a1), .val (.ref a2), .val (.int p4), .val (.int p5)] [(.int (0 : Int32))])) _
                      rw [show w1 = (0 : Int32) from by rw [qw1, if_neg c15_260, if_neg c22_275, if_neg c28_276, if_neg c35_283, if_neg c41_284, if_neg c48_287, if_neg c54_288, if_neg c61_289]] at k
                      exact k
    refine OwnWp.retZ X257 hx hlk Bd.returns (hb hby d21_69) (by decide) (by decide) (by rw [qw1]; repeat (first | exact Or.inl rfl | exact Or.inr rfl | split)) ?_
    exact ⟨by rw [hv, qw1]; rfl, N257, e257.trans hq12⟩
  refine OwnWp.step (U' := s₁.setTop (mkF m 1 #[.val (.int p1), .val (.ref a1), .val (.ref a2), .val (.int p4), .val (.int p5)] [(.int p4)])) (fun t k => ?_) ?_
  · show Steps p.tables e below (s₁.setTop (mkF m 0 #[.val (.int p1), .val (.ref a1), .val (.ref a2), .val (.int p4), .val (.int p5)] [])) _
    refine XS.iloadN X0.here hx rfl (hb hby d21_0) rfl ?_
    show Steps p.tables e below (s₁.setTop (mkF m 1 #[.val (.int p1), .val (.ref a1), .val (.ref a2), .val (.int p4), .val (.int p5)] [(.int p4)])) _
    exact k
  by_cases c1_290 : p4 = (0 : Int32)
  · refine OwnWp.step (U' := s₁.setTop (mkF m 12 #[.val (.int p1), .val (.ref a1), .val (.ref a2), .val (.int p4), .val (.int p5)] [])) (fun t k => ?_) ?_
    · show Steps p.tables e below (s₁.setTop (mkF m 1 #[.val (.int p1), .val (.ref a1), .val (.ref a2), .val (.int p4), .val (.int p5)] [(.int p4)])) _
      refine XS.ifYes X0.here hx rfl (pc0 := 1) (pc' := 12) rfl (hb hby d21_1) rfl (XT.i0_eq_t c1_290) (by decide) (by decide) ?_
      exact k
    exact J12  s₁ h0 _  X0 e0 N0 Z0 A1 A2  rfl (by unfold own_inSet; rw [if_pos c1_290])
  · refine OwnWp.step (U' := s₁.setTop (mkF m 4 #[.val (.int p1), .val (.ref a1), .val (.ref a2), .val (.int p4), .val (.int p5)] [])) (fun t k => ?_) ?_
    · show Steps p.tables e below (s₁.setTop (mkF m 1 #[.val (.int p1), .val (.ref a1), .val (.ref a2), .val (.int p4), .val (.int p5)] [(.int p4)])) _
      refine XS.ifNo X0.here hx rfl (hb hby d21_1) rfl (XT.i0_eq_f c1_290) ?_
      exact k
    refine OwnWp.step (U' := s₁.setTop (mkF m 7 #[.val (.int p1), .val (.ref a1), .val (.ref a2), .val (.int p4), .val (.int p5)] [(.int p5), (.int p1)])) (fun t k => ?_) ?_
    · show Steps p.tables e below (s₁.setTop (mkF m 4 #[.val (.int p1), .val (.ref a1), .val (.ref a2), .val (.int p4), .val (.int p5)] [])) _
      refine XS.iloadN X0.here hx rfl (hb hby d21_4) rfl ?_
      show Steps p.tables e below (s₁.setTop (mkF m 5 #[.val (.int p1), .val (.ref a1), .val (.ref a2), .val (.int p4), .val (.int p5)] [(.int p1)])) _
      refine XS.iload X0.here hx rfl (hb hby d21_5) rfl ?_
      show Steps p.tables e below (s₁.setTop (mkF m 7 #[.val (.int p1), .val (.ref a1), .val (.ref a2), .val (.int p4), .val (.int p5)] [(.int p5), (.int p1)])) _
      exact k
    by_cases c7_291 : p1 = p5
    · refine OwnWp.step (U' := s₁.setTop (mkF m 10 #[.val (.int p1), .val (.ref a1), .val (.ref a2), .val (.int p4), .val (.int p5)] [])) (fun t k => ?_) ?_
      · show Steps p.tables e below (s₁.setTop (mkF m 7 #[.val (.int p1), .val (.ref a1), .val (.ref a2), .val (.int p4), .val (.int p5)] [(.int p5), (.int p1)])) _
        refine XS.icmpNo X0.here hx rfl (hb hby d21_7) rfl (XT.ii_ne_f c7_291) ?_
        exact k
      refine OwnWp.step (U' := s₁.setTop (mkF m 11 #[.val (.int p1), .val (.ref a1), .val (.ref a2), .val (.int p4), .val (.int p5)] [(.int (0 : Int32))])) (fun t k => ?_) ?_
      · show Steps p.tables e below (s₁.setTop (mkF m 10 #[.val (.int p1), .val (.ref a1), .val (.ref a2), .val (.int p4), .val (.int p5)] [])) _
        refine XT.iconstV X0.here hx rfl (0 : Int32) (hb hby d21_10) rfl ?_
        show Steps p.tables e below (s₁.setTop (mkF m 11 #[.val (.int p1), .val (.ref a1), .val (.ref a2), .val (.int p4), .val (.int p5)] [(.int (0 : Int32))])) _
        exact k
      refine OwnWp.retZ X0 hx hlk Bd.returns (hb hby d21_11) (by decide) (by decide) (by decide) ?_
      exact ⟨by unfold own_inSet; rw [if_neg c1_290, if_pos c7_291], N0, e0⟩
    · refine OwnWp.step (U' := s₁.setTop (mkF m 12 #[.val (.int p1), .val (.ref a1), .val (.ref a2), .val (.int p4), .val (.int p5)] [])) (fun t k => ?_) ?_
      · show Steps p.tables e below (s₁.setTop (mkF m 7 #[.val (.int p1), .val (.ref a1), .val (.ref a2), .val (.int p4), .val (.int p5)] [(.int p5), (.int p1)])) _
        refine XS.icmpYes X0.here hx rfl (pc0 := 7) (pc' := 12) rfl (hb hby d21_7) rfl (XT.ii_ne_t c7_291) (by decide) (by decide) ?_
        exact k
      exact J12  s₁ h0 _  X0 e0 N0 Z0 A1 A2  rfl (by unfold own_inSet; rw [if_neg c1_290, if_neg c7_291])
def own_apart_w1 (mm : Int32) (ar : Int → Int32) (p1 p2 : Int32) : Int32 := (if p2 < mm then (if (ar p1.toInt) = (ar p2.toInt) then (0 : Int32) else (1 : Int32)) else (1 : Int32))
def own_apart (mm : Int32) (ar : Int → Int32) (p1 p2 : Int32) : Int32 := (own_apart_w1 mm ar p1 p2)
theorem d22_0 : decode method_6_code 0 = .ok (.iload_n 2, 1) := by decide +kernel
theorem d22_1 : decode method_6_code 1 = .ok (.aload_n 0, 1) := by decide +kernel
theorem d22_2 : decode method_6_code 2 = .ok (.arraylength, 1) := by decide +kernel
theorem d22_3 : decode method_6_code 3 = .ok (.if_icmp .ge 12, 3) := by decide +kernel
theorem d22_6 : decode method_6_code 6 = .ok (.aload_n 0, 1) := by decide +kernel
theorem d22_7 : decode method_6_code 7 = .ok (.iload_n 1, 1) := by decide +kernel
theorem d22_8 : decode method_6_code 8 = .ok (.iaload, 1) := by decide +kernel
theorem d22_9 : decode method_6_code 9 = .ok (.aload_n 0, 1) := by decide +kernel
theorem d22_10 : decode method_6_code 10 = .ok (.iload_n 2, 1) := by decide +kernel
theorem d22_11 : decode method_6_code 11 = .ok (.iaload, 1) := by decide +kernel
theorem d22_12 : decode method_6_code 12 = .ok (.if_icmp .eq 7, 3) := by decide +kernel
theorem d22_15 : decode method_6_code 15 = .ok (.iconst 1, 1) := by decide +kernel
theorem d22_16 : decode method_6_code 16 = .ok (.goto 4, 3) := by decide +kernel
theorem d22_19 : decode method_6_code 19 = .ok (.iconst 0, 1) := by decide +kernel
theorem d22_20 : decode method_6_code 20 = .ok (.ireturn, 1) := by decide +kernel
theorem pn_22 : plainFor (⟨"com/example/utu/utu/SlotNumbersToArrayPinLaw", "apart", "([III)Z"⟩ : MethodName) = true := plainFor_of_name (by first | (simp [plainName, overriddenIn]; done) | decide +kernel)
theorem pd_22 : parseMethodDescriptor "([III)Z" = some ⟨[(.array .int), .int, .int], some .boolean⟩ := by decide +kernel
theorem ef_22 (m : MethodId) (x0 : Addr) (x1 : Int32) (x2 : Int32) : entryFrame m #[(.ref x0), (.int x1), (.int x2)] 3 = mkF m 0 #[.val (.ref x0), .val (.int x1), .val (.int x2)] [] := by first | (simp [entryFrame, mkF, argsToLocals, Value.category, maxLocals]; done) | rfl
def Q22 (Z : State) (a1 : Addr) (p1 : Int32) (p2 : Int32) (mm : Int32) (ar : Int → Int32) (h0 : Heap) (n0 : Nat) (v : Option Value) (h : Heap) (L : List Loc) : Prop := v = some (.int (own_apart mm ar p1 p2)) ∧ Fr n0 L ∧ h = h0
set_option maxRecDepth 65536 in
set_option maxHeartbeats 40000000 in
theorem rm22 (l : Launch) (Z : State) (a0 : Array Value) (hw : ∀ d ∈ tables_1, d.before a0 Z = true) (ws : List Jvm.Cond) (a1 : Addr) (p1 : Int32) (p2 : Int32) (mm : Int32) (ar : Int → Int32) (h0 : Heap) (n0 : Nat) (Z0 : n0 ≤ h0.size) (A0 : OwnA Z h0 a1 .int mm (fun i => .int (ar i))) (h1 : 0 ≤ p1.toInt) (h2 : p1.toInt < p2.toInt) :
    MetFree l (⟨"com/example/utu/utu/SlotNumbersToArrayPinLaw", "apart", "([III)Z"⟩ : MethodName) (head1 (Jvm.Cond.code (⟨"com/example/utu/utu/SlotNumbersToArrayPinLaw", "apart", "([III)Z"⟩ : MethodName) method_6_code 3 (some .boolean) :: ws) ({ frames := 0, cells := 0, slots := 0, locals := 0 } : Room)) (fun a U => a = #[(.ref a1), (.int p1), (.int p2)] ∧ Z.Warmed39 U.vm ∧ U.heap = h0) (fun _ _ _ _ _ => True) (fun _ U oc U' => ∃ v L, oc = .returned v ∧ Q22 Z a1 p1 p2 mm ar h0 n0 v U'.heap L ∧ FrameEnd U oc U' L ({ frames := 0, cells := 0, slots := 0, locals := 0 } : Room).cells ({ frames := 0, cells := 0, slots := 0, locals := 0 } : Room).slots) := by
  refine MetFree.of_bodySF pn_22 hisR ?_
  intro p e s m args below meth c s₁ Bd hml0 hP hK
  obtain ⟨rfl, hZ, hh⟩ := hP
  have hx := Bd.exec
  have hby := Bd.bytes
  have hlk := BodyLoose.notSynchronized Bd
  have hml : c.maxLocals = 3 := hml0
  have hown : s.vm.findClass "com/example/utu/utu/SlotNumbersToArrayPinLaw" = some m.cls := findClass_of_methodNamed Bd.named
  have hnm := (name_of_methodNamed Bd.named Bd.method).1
  have X0 : Stand p l e ({ frames := 0, cells := 0, slots := 0, locals := 0 } : Room) s m #[(.ref a1), (.int p1), (.int p2)] below meth c s₁ [] 0 0 := Stand.of_body Bd
  have e0 : s₁.heap = h0 := by rw [← hh, Bd.state]; rfl
  have N0 := Fr.nil n0
  show OwnWp p e below s ({ frames := 0, cells := 0, slots := 0, locals := 0 } : Room).cells ({ frames := 0, cells := 0, slots := 0, locals := 0 } : Room).slots (Q22 Z a1 p1 p2 mm ar h0 n0) (s₁.setTop (entryFrame m #[(.ref a1), (.int p1), (.int p2)] 3))
  refine OwnWp.cast (ef_22 m a1 p1 p2) ?_
  show OwnWp p e below s _ _ _ (s₁.setTop (mkF m 0 #[.val (.ref a1), .val (.int p1), .val (.int p2)] []))
  refine OwnWp.step (U' := s₁.setTop (mkF m 3 #[.val (.ref a1), .val (.int p1), .val (.int p2)] [(.int mm), (.int p2)])) (fun t k => ?_) ?_
  · show Steps p.tables e below (s₁.setTop (mkF m 0 #[.val (.ref a1), .val (.int p1), .val (.int p2)] [])) _
    refine XS.iloadN X0.here hx rfl (hb hby d22_0) rfl ?_
    show Steps p.tables e below (s₁.setTop (mkF m 1 #[.val (.ref a1), .val (.int p1), .val (.int p2)] [(.int p2)])) _
    refine XS.aloadN X0.here hx rfl (hb hby d22_1) rfl rfl ?_
    show Steps p.tables e below (s₁.setTop (mkF m 2 #[.val (.ref a1), .val (.int p1), .val (.int p2)] [(.ref a1), (.int p2)])) _
    refine OwnA.alen X0 hx hZ e0 A0 rfl rfl (hb hby d22_2) ?_
    show Steps p.tables e below (s₁.setTop (mkF m 3 #[.val (.ref a1), .val (.int p1), .val (.int p2)] [(.int mm), (.int p2)])) _
    exact k
  obtain ⟨w1, qw1⟩ : ∃ z : Int32, z = (if p2 < mm then (if (ar p1.toInt) = (ar p2.toInt) then (0 : Int32) else (1 : Int32)) else (1 : Int32)) := ⟨_, rfl⟩
  refine OwnWp.step (U' := s₁.setTop (mkF m 20 #[.val (.ref a1), .val (.int p1), .val (.int p2)] [(.int w1)])) (fun t k => ?_) ?_
  · show Steps p.tables e below (s₁.setTop (mkF m 3 #[.val (.ref a1), .val (.int p1), .val (.int p2)] [(.int mm), (.int p2)])) _
    by_cases c3_292 : p2 < mm
    · refine XS.icmpNo X0.here hx rfl (hb hby d22_3) rfl (XT.ii_ge_f c3_292) ?_
      show Steps p.tables e below (s₁.setTop (mkF m 6 #[.val (.ref a1), .val (.int p1), .val (.int p2)] [])) _
      refine XS.aloadN X0.here hx rfl (hb hby d22_6) rfl rfl ?_
      show Steps p.tables e below (s₁.setTop (mkF m 7 #[.val (.ref a1), .val (.int p1), .val (.int p2)] [(.ref a1)])) _
      refine XS.iloadN X0.here hx rfl (hb hby d22_7) rfl ?_
      show Steps p.tables e below (s₁.setTop (mkF m 8 #[.val (.ref a1), .val (.int p1), .val (.int p2)] [(.int p1), (.ref a1)])) _
      refine OwnA.ldI X0 hx hZ e0 A0 h1 (Int.lt_trans h2 (Int32.lt_iff_toInt_lt.mp (by assumption))) rfl rfl (hb hby d22_8) ?_
      show Steps p.tables e below (s₁.setTop (mkF m 9 #[.val (.ref a1), .val (.int p1), .val (.int p2)] [(.int (ar p1.toInt))])) _
      refine XS.aloadN X0.here hx rfl (hb hby d22_9) rfl rfl ?_
      show Steps p.tables e below (s₁.setTop (mkF m 10 #[.val (.ref a1), .val (.int p1), .val (.int p2)] [(.ref a1), (.int (ar p1.toInt))])) _
      refine XS.iloadN X0.here hx rfl (hb hby d22_10) rfl ?_
      show Steps p.tables e below (s₁.setTop (mkF m 11 #[.val (.ref a1), .val (.int p1), .val (.int p2)] [(.int p2), (.ref a1), (.int (ar p1.toInt))])) _
      refine OwnA.ldI X0 hx hZ e0 A0 (by omega) (Int32.lt_iff_toInt_lt.mp (by assumption)) rfl rfl (hb hby d22_11) ?_
      show Steps p.tables e below (s₁.setTop (mkF m 12 #[.val (.ref a1), .val (.int p1), .val (.int p2)] [(.int (ar p2.toInt)), (.int (ar p1.toInt))])) _
      by_cases c12_293 : (ar p1.toInt) = (ar p2.toInt)
      · refine XS.icmpYes X0.here hx rfl (pc0 := 12) (pc' := 19) rfl (hb hby d22_12) rfl (XT.ii_eq_t c12_293) (by decide) (by decide) ?_
        show Steps p.tables e below (s₁.setTop (mkF m 19 #[.val (.ref a1), .val (.int p1), .val (.int p2)] [])) _
        refine XT.iconstV X0.here hx rfl (0 : Int32) (hb hby d22_19) rfl ?_
        show Steps p.tables e below (s₁.setTop (mkF m 20 #[.val (.ref a1), .val (.int p1), .val (.int p2)] [(.int (0 : Int32))])) _
        rw [show w1 = (0 : Int32) from by rw [qw1, if_pos c3_292, if_pos c12_293]] at k
        exact k
      · refine XS.icmpNo X0.here hx rfl (hb hby d22_12) rfl (XT.ii_eq_f c12_293) ?_
        show Steps p.tables e below (s₁.setTop (mkF m 15 #[.val (.ref a1), .val (.int p1), .val (.int p2)] [])) _
        refine XT.iconstV X0.here hx rfl (1 : Int32) (hb hby d22_15) rfl ?_
        show Steps p.tables e below (s₁.setTop (mkF m 16 #[.val (.ref a1), .val (.int p1), .val (.int p2)] [(.int (1 : Int32))])) _
        refine XS.goto X0.here hx rfl (pc0 := 16) (pc' := 20) rfl (hb hby d22_16) (by decide) (by decide) ?_
        show Steps p.tables e below (s₁.setTop (mkF m 20 #[.val (.ref a1), .val (.int p1), .val (.int p2)] [(.int (1 : Int32))])) _
        rw [show w1 = (1 : Int32) from by rw [qw1, if_pos c3_292, if_neg c12_293]] at k
        exact k
    · refine XS.icmpYes X0.here hx rfl (pc0 := 3) (pc' := 15) rfl (hb hby d22_3) rfl (XT.ii_ge_t c3_292) (by decide) (by decide) ?_
      show Steps p.tables e below (s₁.setTop (mkF m 15 #[.val (.ref a1), .val (.int p1), .val (.int p2)] [])) _
      refine XT.iconstV X0.here hx rfl (1 : Int32) (hb hby d22_15) rfl ?_
      show Steps p.tables e below (s₁.setTop (mkF m 16 #[.val (.ref a1), .val (.int p1), .val (.int p2)] [(.int (1 : Int32))])) _
      refine XS.goto X0.here hx rfl (pc0 := 16) (pc' := 20) rfl (hb hby d22_16) (by decide) (by decide) ?_
      show Steps p.tables e below (s₁.setTop (mkF m 20 #[.val (.ref a1), .val (.int p1), .val (.int p2)] [(.int (1 : Int32))])) _
      rw [show w1 = (1 : Int32) from by rw [qw1, if_neg c3_292]] at k
      exact k
  refine OwnWp.retZ X0 hx hlk Bd.returns (hb hby d22_20) (by decide) (by decide) (by rw [qw1]; repeat (first | exact Or.inl rfl | exact Or.inr rfl | split)) ?_
  refine ⟨?_, N0, e0⟩
  show some (Value.int w1) = some (.int (own_apart mm ar p1 p2))
  subst qw1
  unfold own_apart own_apart_w1
  rfl
def own_entry (mm : Int32) (ar : Int → Int32) (p1 : Int32) (ex on : Int → Int32) (p4 p5 : Int32) : Int32 := if p1 < mm then (if own_inSet (ar p1.toInt) ex on p4 p5 = 0 then 0 else 1) else 1
theorem d20_0 : decode method_5_code 0 = .ok (.iload_n 1, 1) := by decide +kernel
theorem d20_1 : decode method_5_code 1 = .ok (.aload_n 0, 1) := by decide +kernel
theorem d20_2 : decode method_5_code 2 = .ok (.arraylength, 1) := by decide +kernel
theorem d20_3 : decode method_5_code 3 = .ok (.if_icmp .ge 18, 3) := by decide +kernel
theorem d20_6 : decode method_5_code 6 = .ok (.aload_n 0, 1) := by decide +kernel
theorem d20_7 : decode method_5_code 7 = .ok (.iload_n 1, 1) := by decide +kernel
theorem d20_8 : decode method_5_code 8 = .ok (.iaload, 1) := by decide +kernel
theorem d20_9 : decode method_5_code 9 = .ok (.aload_n 2, 1) := by decide +kernel
theorem d20_10 : decode method_5_code 10 = .ok (.aload_n 3, 1) := by decide +kernel
theorem d20_11 : decode method_5_code 11 = .ok (.iload 4, 2) := by decide +kernel
theorem d20_13 : decode method_5_code 13 = .ok (.iload 5, 2) := by decide +kernel
theorem d20_15 : decode method_5_code 15 = .ok (.invokestatic 8, 3) := by decide +kernel
theorem d20_18 : decode method_5_code 18 = .ok (.ifCond .eq 7, 3) := by decide +kernel
theorem d20_21 : decode method_5_code 21 = .ok (.iconst 1, 1) := by decide +kernel
theorem d20_22 : decode method_5_code 22 = .ok (.goto 4, 3) := by decide +kernel
theorem d20_25 : decode method_5_code 25 = .ok (.iconst 0, 1) := by decide +kernel
theorem d20_26 : decode method_5_code 26 = .ok (.ireturn, 1) := by decide +kernel
theorem pn_20 : plainFor (⟨"com/example/utu/utu/SlotNumbersToArrayPinLaw", "entryOk", "([II[I[ZZI)Z"⟩ : MethodName) = true := plainFor_of_name (by first | (simp [plainName, overriddenIn]; done) | decide +kernel)
theorem pd_20 : parseMethodDescriptor "([II[I[ZZI)Z" = some ⟨[(.array .int), .int, (.array .int), (.array .boolean), .boolean, .int], some .boolean⟩ := by decide +kernel
theorem ef_20 (m : MethodId) (x0 : Addr) (x1 : Int32) (x2 : Addr) (x3 : Addr) (x4 : Int32) (x5 : Int32) : entryFrame m #[(.ref x0), (.int x1), (.ref x2), (.ref x3), (.int x4), (.int x5)] 6 = mkF m 0 #[.val (.ref x0), .val (.int x1), .val (.ref x2), .val (.ref x3), .val (.int x4), .val (.int x5)] [] := by first | (simp [entryFrame, mkF, argsToLocals, Value.category, maxLocals]; done) | rfl
def Q20 (Z : State) (a1 : Addr) (p1 : Int32) (a2 : Addr) (a3 : Addr) (p4 : Int32) (p5 : Int32) (mm : Int32) (ar : Int → Int32) (ex : Int → Int32) (on : Int → Int32) (h0 : Heap) (n0 : Nat) (v : Option Value) (h : Heap) (L : List Loc) : Prop := v = some (.int (own_entry mm ar p1 ex on p4 p5)) ∧ Fr n0 L ∧ h = h0
set_option maxRecDepth 65536 in
set_option maxHeartbeats 40000000 in
theorem rm20 (l : Launch) (Z : State) (a0 : Array Value) (hw : ∀ d ∈ tables_1, d.before a0 Z = true) (ws : List Jvm.Cond) (a1 : Addr) (p1 : Int32) (a2 : Addr) (a3 : Addr) (p4 : Int32) (p5 : Int32) (mm : Int32) (ar : Int → Int32) (ex : Int → Int32) (on : Int → Int32) (h0 : Heap) (n0 : Nat) (Z0 : n0 ≤ h0.size) (A0 : OwnA Z h0 a1 .int mm (fun i => .int (ar i))) (A1 : OwnA Z h0 a2 .int (4 : Int32) (fun i => .int (ex i))) (A2 : OwnA Z h0 a3 .boolean (4 : Int32) (fun i => .int (on i))) (h1 : 0 ≤ p1.toInt) :
    MetFree l (⟨"com/example/utu/utu/SlotNumbersToArrayPinLaw", "entryOk", "([II[I[ZZI)Z"⟩ : MethodName) (head1 (Jvm.Cond.code (⟨"com/example/utu/utu/SlotNumbersToArrayPinLaw", "entryOk", "([II[I[ZZI)Z"⟩ : MethodName) method_5_code 6 (some .boolean) :: ws) ({ frames := 1, cells := 0, slots := 0, locals := 16 } : Room)) (fun a U => a = #[(.ref a1), (.int p1), (.ref a2), (.ref a3), (.int p4), (.int p5)] ∧ Z.Warmed39 U.vm ∧ U.heap = h0) (fun _ _ _ _ _ => True) (fun _ U oc U' => ∃ v L, oc = .returned v ∧ Q20 Z a1 p1 a2 a3 p4 p5 mm ar ex on h0 n0 v U'.heap L ∧ FrameEnd U oc U' L ({ frames := 1, cells := 0, slots := 0, locals := 16 } : Room).cells ({ frames := 1, cells := 0, slots := 0, locals := 16 } : Room).slots) := by
  refine MetFree.of_bodySF pn_20 hisR ?_
  intro p e s m args below meth c s₁ Bd hml0 hP hK
  obtain ⟨rfl, hZ, hh⟩ := hP
  have hx := Bd.exec
  have hby := Bd.bytes
  have hlk := BodyLoose.notSynchronized Bd
  have hml : c.maxLocals = 6 := hml0
  have hown : s.vm.findClass "com/example/utu/utu/SlotNumbersToArrayPinLaw" = some m.cls := findClass_of_methodNamed Bd.named
  have hnm := (name_of_methodNamed Bd.named Bd.method).1
  have X0 : Stand p l e ({ frames := 1, cells := 0, slots := 0, locals := 16 } : Room) s m #[(.ref a1), (.int p1), (.ref a2), (.ref a3), (.int p4), (.int p5)] below meth c s₁ [] 0 0 := Stand.of_body Bd
  have e0 : s₁.heap = h0 := by rw [← hh, Bd.state]; rfl
  have N0 := Fr.nil n0
  show OwnWp p e below s ({ frames := 1, cells := 0, slots := 0, locals := 16 } : Room).cells ({ frames := 1, cells := 0, slots := 0, locals := 16 } : Room).slots (Q20 Z a1 p1 a2 a3 p4 p5 mm ar ex on h0 n0) (s₁.setTop (entryFrame m #[(.ref a1), (.int p1), (.ref a2), (.ref a3), (.int p4), (.int p5)] 6))
  refine OwnWp.cast (ef_20 m a1 p1 a2 a3 p4 p5) ?_
  show OwnWp p e below s _ _ _ (s₁.setTop (mkF m 0 #[.val (.ref a1), .val (.int p1), .val (.ref a2), .val (.ref a3), .val (.int p4), .val (.int p5)] []))
  refine OwnWp.step (U' := s₁.setTop (mkF m 3 #[.val (.ref a1), .val (.int p1), .val (.ref a2), .val (.ref a3), .val (.int p4), .val (.int p5)] [(.int mm), (.int p1)])) (fun t k => ?_) ?_
  · show Steps p.tables e below (s₁.setTop (mkF m 0 #[.val (.ref a1), .val (.int p1), .val (.ref a2), .val (.ref a3), .val (.int p4), .val (.int p5)] [])) _
    refine XS.iloadN X0.here hx rfl (hb hby d20_0) rfl ?_
    show Steps p.tables e below (s₁.setTop (mkF m 1 #[.val (.ref a1), .val (.int p1), .val (.ref a2), .val (.ref a3), .val (.int p4), .val (.int p5)] [(.int p1)])) _
    refine XS.aloadN X0.here hx rfl (hb hby d20_1) rfl rfl ?_
    show Steps p.tables e below (s₁.setTop (mkF m 2 #[.val (.ref a1), .val (.int p1), .val (.ref a2), .val (.ref a3), .val (.int p4), .val (.int p5)] [(.ref a1), (.int p1)])) _
    refine OwnA.alen X0 hx hZ e0 A0 rfl rfl (hb hby d20_2) ?_
    show Steps p.tables e below (s₁.setTop (mkF m 3 #[.val (.ref a1), .val (.int p1), .val (.ref a2), .val (.ref a3), .val (.int p4), .val (.int p5)] [(.int mm), (.int p1)])) _
    exact k
  by_cases c3_294 : p1 < mm
  · refine OwnWp.step (U' := s₁.setTop (mkF m 6 #[.val (.ref a1), .val (.int p1), .val (.ref a2), .val (.ref a3), .val (.int p4), .val (.int p5)] [])) (fun t k => ?_) ?_
    · show Steps p.tables e below (s₁.setTop (mkF m 3 #[.val (.ref a1), .val (.int p1), .val (.ref a2), .val (.ref a3), .val (.int p4), .val (.int p5)] [(.int mm), (.int p1)])) _
      refine XS.icmpNo X0.here hx rfl (hb hby d20_3) rfl (XT.ii_ge_f c3_294) ?_
      exact k
    refine OwnWp.step (U' := s₁.setTop (mkF m 15 #[.val (.ref a1), .val (.int p1), .val (.ref a2), .val (.ref a3), .val (.int p4), .val (.int p5)] [(.int p5), (.int p4), (.ref a3), (.ref a2), (.int (ar p1.toInt))])) (fun t k => ?_) ?_
    · show Steps p.tables e below (s₁.setTop (mkF m 6 #[.val (.ref a1), .val (.int p1), .val (.ref a2), .val (.ref a3), .val (.int p4), .val (.int p5)] [])) _
      refine XS.aloadN X0.here hx rfl (hb hby d20_6) rfl rfl ?_
      show Steps p.tables e below (s₁.setTop (mkF m 7 #[.val (.ref a1), .val (.int p1), .val (.ref a2), .val (.ref a3), .val (.int p4), .val (.int p5)] [(.ref a1)])) _
      refine XS.iloadN X0.here hx rfl (hb hby d20_7) rfl ?_
      show Steps p.tables e below (s₁.setTop (mkF m 8 #[.val (.ref a1), .val (.int p1), .val (.ref a2), .val (.ref a3), .val (.int p4), .val (.int p5)] [(.int p1), (.ref a1)])) _
      refine OwnA.ldI X0 hx hZ e0 A0 h1 (Int32.lt_iff_toInt_lt.mp (by assumption)) rfl rfl (hb hby d20_8) ?_
      show Steps p.tables e below (s₁.setTop (mkF m 9 #[.val (.ref a1), .val (.int p1), .val (.ref a2), .val (.ref a3), .val (.int p4), .val (.int p5)] [(.int (ar p1.toInt))])) _
      refine XS.aloadN X0.here hx rfl (hb hby d20_9) rfl rfl ?_
      show Steps p.tables e below (s₁.setTop (mkF m 10 #[.val (.ref a1), .val (.int p1), .val (.ref a2), .val (.ref a3), .val (.int p4), .val (.int p5)] [(.ref a2), (.int (ar p1.toInt))])) _
      refine XS.aloadN X0.here hx rfl (hb hby d20_10) rfl rfl ?_
      show Steps p.tables e below (s₁.setTop (mkF m 11 #[.val (.ref a1), .val (.int p1), .val (.ref a2), .val (.ref a3), .val (.int p4), .val (.int p5)] [(.ref a3), (.ref a2), (.int (ar p1.toInt))])) _
      refine XS.iload X0.here hx rfl (hb hby d20_11) rfl ?_
      show Steps p.tables e below (s₁.setTop (mkF m 13 #[.val (.ref a1), .val (.int p1), .val (.ref a2), .val (.ref a3), .val (.int p4), .val (.int p5)] [(.int p4), (.ref a3), (.ref a2), (.int (ar p1.toInt))])) _
      refine XS.iload X0.here hx rfl (hb hby d20_13) rfl ?_
      show Steps p.tables e below (s₁.setTop (mkF m 15 #[.val (.ref a1), .val (.int p1), .val (.ref a2), .val (.ref a3), .val (.int p4), .val (.int p5)] [(.int p5), (.int p4), (.ref a3), (.ref a2), (.int (ar p1.toInt))])) _
      exact k
    obtain ⟨_, _, ⟨T295, L295, k295, n295⟩, -, X295, ⟨Lc295, hQ295, l295, y295, z295⟩, st295⟩ := Jvm.LawKit.callS X0 hx (y := (⟨"com/example/utu/utu/SlotNumbersToArrayPinLaw", "inSet", "(I[I[ZZI)Z"⟩ : MethodName)) hown (mvT hZ (hw _ (List.mem_of_getElem? (i := 103) rfl))) (mvT hZ (hw _ (List.mem_of_getElem? (i := 104) rfl))) (mvT hZ (hw _ (List.mem_of_getElem? (i := 2) rfl))) (mvT hZ (hw _ (List.mem_of_getElem? (i := 105) rfl))) (by decide) (backOf (W := 0) (rm21 l Z a0 hw [] (ar p1.toInt) a2 a3 p4 p5 ex on h0 n0 Z0 A1 A2) hZ (hw _ (List.mem_of_getElem? (i := 105) rfl)) (hw _ (List.mem_of_getElem? (i := 2) rfl)) (by decide) (by decide)) (g := (mkF m 15 #[.val (.ref a1), .val (.int p1), .val (.ref a2), .val (.ref a3), .val (.int p4), .val (.int p5)] [(.int p5), (.int p4), (.ref a3), (.ref a2), (.int (ar p1.toInt))])) rfl (by rw [hml]; rfl) (argsL := [(.int (ar p1.toInt)), (.ref a2), (.ref a3), (.int p4), (.int p5)]) (rest := []) (lenOf pd_21 rfl) rfl (by show 2 * 0 + _ ≤ _; exact Nat.le_of_eq rfl) (hb hby d20_15) (fun _ _ => ⟨rfl, e0, (by dsimp only [Pt.cells]; decide), (by dsimp only [Pt.slots]; decide)⟩)
    dsimp only [Pt.U, Pt.locs, Pt.cells, Pt.slots] at X295 l295 y295 z295 st295 hQ295
    subst l295 y295 z295
    obtain ⟨rfl, Nc295, hp295⟩ := hQ295
    have N295 := Fr.app N0 Nc295
    refine OwnWp.step st295 ?_
    have eh295 : T295.heap = h0 := hp295
    show OwnWp p e below s _ _ _ (T295.setTop (mkF m 18 #[.val (.ref a1), .val (.int p1), .val (.ref a2), .val (.ref a3), .val (.int p4), .val (.int p5)] [(.int (own_inSet (ar p1.toInt) ex on p4 p5))]))
    obtain ⟨w1, qw1⟩ : ∃ z : Int32, z = (if (own_inSet (ar p1.toInt) ex on p4 p5) = (0 : Int32) then (0 : Int32) else (1 : Int32)) := ⟨_, rfl⟩
    refine OwnWp.step (U' := T295.setTop (mkF m 26 #[.val (.ref a1), .val (.int p1), .val (.ref a2), .val (.ref a3), .val (.int p4), .val (.int p5)] [(.int w1)])) (fun t k => ?_) ?_
    · show Steps p.tables e below (T295.setTop (mkF m 18 #[.val (.ref a1), .val (.int p1), .val (.ref a2), .val (.ref a3), .val (.int p4), .val (.int p5)] [(.int (own_inSet (ar p1.toInt) ex on p4 p5))])) _
      by_cases c18_296 : (own_inSet (ar p1.toInt) ex on p4 p5) = (0 : Int32)
      · refine XS.ifYes X295.here hx rfl (pc0 := 18) (pc' := 25) rfl (hb hby d20_18) rfl (XT.i0_eq_t c18_296) (by decide) (by decide) ?_
        show Steps p.tables e below (T295.setTop (mkF m 25 #[.val (.ref a1), .val (.int p1), .val (.ref a2), .val (.ref a3), .val (.int p4), .val (.int p5)] [])) _
        refine XT.iconstV X295.here hx rfl (0 : Int32) (hb hby d20_25) rfl ?_
        show Steps p.tables e below (T295.setTop (mkF m 26 #[.val (.ref a1), .val (.int p1), .val (.ref a2), .val (.ref a3), .val (.int p4), .val (.int p5)] [(.int (0 : Int32))])) _
        rw [show w1 = (0 : Int32) from by rw [qw1, if_pos c18_296]] at k
        exact k
      · refine XS.ifNo X295.here hx rfl (hb hby d20_18) rfl (XT.i0_eq_f c18_296) ?_
        show Steps p.tables e below (T295.setTop (mkF m 21 #[.val (.ref a1), .val (.int p1), .val (.ref a2), .val (.ref a3), .val (.int p4), .val (.int p5)] [])) _
        refine XT.iconstV X295.here hx rfl (1 : Int32) (hb hby d20_21) rfl ?_
        show Steps p.tables e below (T295.setTop (mkF m 22 #[.val (.ref a1), .val (.int p1), .val (.ref a2), .val (.ref a3), .val (.int p4), .val (.int p5)] [(.int (1 : Int32))])) _
        refine XS.goto X295.here hx rfl (pc0 := 22) (pc' := 26) rfl (hb hby d20_22) (by decide) (by decide) ?_
        show Steps p.tables e below (T295.setTop (mkF m 26 #[.val (.ref a1), .val (.int p1), .val (.ref a2), .val (.ref a3), .val (.int p4), .val (.int p5)] [(.int (1 : Int32))])) _
        rw [show w1 = (1 : Int32) from by rw [qw1, if_neg c18_296]] at k
        exact k
    refine OwnWp.retZ X295 hx hlk Bd.returns (hb hby d20_26) (by decide) (by decide) (by rw [qw1]; split <;> first | exact Or.inl rfl | exact Or.inr rfl) ?_
    exact ⟨by unfold own_entry; rw [if_pos c3_294, qw1], N295, eh295⟩
  · refine OwnWp.step (U' := s₁.setTop (mkF m 21 #[.val (.ref a1), .val (.int p1), .val (.ref a2), .val (.ref a3), .val (.int p4), .val (.int p5)] [])) (fun t k => ?_) ?_
    · show Steps p.tables e below (s₁.setTop (mkF m 3 #[.val (.ref a1), .val (.int p1), .val (.ref a2), .val (.ref a3), .val (.int p4), .val (.int p5)] [(.int mm), (.int p1)])) _
      refine XS.icmpYes X0.here hx rfl (pc0 := 3) (pc' := 21) rfl (hb hby d20_3) rfl (XT.ii_ge_t c3_294) (by decide) (by decide) ?_
      exact k
    refine OwnWp.step (U' := s₁.setTop (mkF m 26 #[.val (.ref a1), .val (.int p1), .val (.ref a2), .val (.ref a3), .val (.int p4), .val (.int p5)] [(.int (1 : Int32))])) (fun t k => ?_) ?_
    · show Steps p.tables e below (s₁.setTop (mkF m 21 #[.val (.ref a1), .val (.int p1), .val (.ref a2), .val (.ref a3), .val (.int p4), .val (.int p5)] [])) _
      refine XT.iconstV X0.here hx rfl (1 : Int32) (hb hby d20_21) rfl ?_
      show Steps p.tables e below (s₁.setTop (mkF m 22 #[.val (.ref a1), .val (.int p1), .val (.ref a2), .val (.ref a3), .val (.int p4), .val (.int p5)] [(.int (1 : Int32))])) _
      refine XS.goto X0.here hx rfl (pc0 := 22) (pc' := 26) rfl (hb hby d20_22) (by decide) (by decide) ?_
      show Steps p.tables e below (s₁.setTop (mkF m 26 #[.val (.ref a1), .val (.int p1), .val (.ref a2), .val (.ref a3), .val (.int p4), .val (.int p5)] [(.int (1 : Int32))])) _
      exact k
    refine OwnWp.retZ X0 hx hlk Bd.returns (hb hby d20_26) (by decide) (by decide) (by decide) ?_
    exact ⟨by unfold own_entry; rw [if_neg c3_294], N0, e0⟩
def own_covered (mm : Int32) (ar : Int → Int32) (p1 : Int32) (ex on : Int → Int32) (p4 p5 : Int32) : Int32 := if on p1.toInt = 0 then 1 else if p4 = 0 then own_has mm ar (ex p1.toInt) else if ex p1.toInt = p5 then 1 else own_has mm ar (ex p1.toInt)
theorem own_has01 (mm : Int32) (ar : Int → Int32) (x : Int32) : own_has mm ar x = 0 ∨ own_has mm ar x = 1 := by
  unfold own_has own_has_w1
  repeat (first | exact Or.inl rfl | exact Or.inr rfl | split)
theorem d23_0 : decode method_7_code 0 = .ok (.aload_n 3, 1) := by decide +kernel
theorem d23_1 : decode method_7_code 1 = .ok (.iload_n 1, 1) := by decide +kernel
theorem d23_2 : decode method_7_code 2 = .ok (.baload, 1) := by decide +kernel
theorem d23_3 : decode method_7_code 3 = .ok (.ifCond .ne 5, 3) := by decide +kernel
theorem d23_6 : decode method_7_code 6 = .ok (.iconst 1, 1) := by decide +kernel
theorem d23_7 : decode method_7_code 7 = .ok (.ireturn, 1) := by decide +kernel
theorem d23_8 : decode method_7_code 8 = .ok (.iload 4, 2) := by decide +kernel
theorem d23_10 : decode method_7_code 10 = .ok (.ifCond .eq 13, 3) := by decide +kernel
theorem d23_13 : decode method_7_code 13 = .ok (.aload_n 2, 1) := by decide +kernel
theorem d23_14 : decode method_7_code 14 = .ok (.iload_n 1, 1) := by decide +kernel
theorem d23_15 : decode method_7_code 15 = .ok (.iaload, 1) := by decide +kernel
theorem d23_16 : decode method_7_code 16 = .ok (.iload 5, 2) := by decide +kernel
theorem d23_18 : decode method_7_code 18 = .ok (.if_icmp .ne 5, 3) := by decide +kernel
theorem d23_21 : decode method_7_code 21 = .ok (.iconst 1, 1) := by decide +kernel
theorem d23_22 : decode method_7_code 22 = .ok (.ireturn, 1) := by decide +kernel
theorem d23_23 : decode method_7_code 23 = .ok (.aload_n 0, 1) := by decide +kernel
theorem d23_24 : decode method_7_code 24 = .ok (.aload_n 2, 1) := by decide +kernel
theorem d23_25 : decode method_7_code 25 = .ok (.iload_n 1, 1) := by decide +kernel
theorem d23_26 : decode method_7_code 26 = .ok (.iaload, 1) := by decide +kernel
theorem d23_27 : decode method_7_code 27 = .ok (.invokestatic 14, 3) := by decide +kernel
theorem d23_30 : decode method_7_code 30 = .ok (.ireturn, 1) := by decide +kernel
theorem pn_23 : plainFor (⟨"com/example/utu/utu/SlotNumbersToArrayPinLaw", "covered", "([II[I[ZZI)Z"⟩ : MethodName) = true := plainFor_of_name (by first | (simp [plainName, overriddenIn]; done) | decide +kernel)
theorem pd_23 : parseMethodDescriptor "([II[I[ZZI)Z" = some ⟨[(.array .int), .int, (.array .int), (.array .boolean), .boolean, .int], some .boolean⟩ := by decide +kernel
theorem ef_23 (m : MethodId) (x0 : Addr) (x1 : Int32) (x2 : Addr) (x3 : Addr) (x4 : Int32) (x5 : Int32) : entryFrame m #[(.ref x0), (.int x1), (.ref x2), (.ref x3), (.int x4), (.int x5)] 6 = mkF m 0 #[.val (.ref x0), .val (.int x1), .val (.ref x2), .val (.ref x3), .val (.int x4), .val (.int x5)] [] := by first | (simp [entryFrame, mkF, argsToLocals, Value.category, maxLocals]; done) | rfl
def Q23 (Z : State) (a1 : Addr) (p1 : Int32) (a2 : Addr) (a3 : Addr) (p4 : Int32) (p5 : Int32) (mm : Int32) (ar : Int → Int32) (ex : Int → Int32) (on : Int → Int32) (h0 : Heap) (n0 : Nat) (v : Option Value) (h : Heap) (L : List Loc) : Prop := v = some (.int (own_covered mm ar p1 ex on p4 p5)) ∧ Fr n0 L ∧ h = h0
set_option maxRecDepth 65536 in
set_option maxHeartbeats 40000000 in
theorem rm23 (l : Launch) (Z : State) (a0 : Array Value) (hw : ∀ d ∈ tables_1, d.before a0 Z = true) (ws : List Jvm.Cond) (a1 : Addr) (p1 : Int32) (a2 : Addr) (a3 : Addr) (p4 : Int32) (p5 : Int32) (mm : Int32) (ar : Int → Int32) (ex : Int → Int32) (on : Int → Int32) (h0 : Heap) (n0 : Nat) (Z0 : n0 ≤ h0.size) (A0 : OwnA Z h0 a1 .int mm (fun i => .int (ar i))) (A1 : OwnA Z h0 a2 .int (4 : Int32) (fun i => .int (ex i))) (A2 : OwnA Z h0 a3 .boolean (4 : Int32) (fun i => .int (on i))) (h1 : 0 ≤ p1.toInt ∧ p1.toInt < 4) :
    MetFree l (⟨"com/example/utu/utu/SlotNumbersToArrayPinLaw", "covered", "([II[I[ZZI)Z"⟩ : MethodName) (head1 (Jvm.Cond.code (⟨"com/example/utu/utu/SlotNumbersToArrayPinLaw", "covered", "([II[I[ZZI)Z"⟩ : MethodName) method_7_code 6 (some .boolean) :: ws) ({ frames := 1, cells := 0, slots := 0, locals := 14 } : Room)) (fun a U => a = #[(.ref a1), (.int p1), (.ref a2), (.ref a3), (.int p4), (.int p5)] ∧ Z.Warmed39 U.vm ∧ U.heap = h0) (fun _ _ _ _ _ => True) (fun _ U oc U' => ∃ v L, oc = .returned v ∧ Q23 Z a1 p1 a2 a3 p4 p5 mm ar ex on h0 n0 v U'.heap L ∧ FrameEnd U oc U' L ({ frames := 1, cells := 0, slots := 0, locals := 14 } : Room).cells ({ frames := 1, cells := 0, slots := 0, locals := 14 } : Room).slots) := by
  refine MetFree.of_bodySF pn_23 hisR ?_
  intro p e s m args below meth c s₁ Bd hml0 hP hK
  obtain ⟨rfl, hZ, hh⟩ := hP
  have hx := Bd.exec
  have hby := Bd.bytes
  have hlk := BodyLoose.notSynchronized Bd
  have hml : c.maxLocals = 6 := hml0
  have hown : s.vm.findClass "com/example/utu/utu/SlotNumbersToArrayPinLaw" = some m.cls := findClass_of_methodNamed Bd.named
  have hnm := (name_of_methodNamed Bd.named Bd.method).1
  have X0 : Stand p l e ({ frames := 1, cells := 0, slots := 0, locals := 14 } : Room) s m #[(.ref a1), (.int p1), (.ref a2), (.ref a3), (.int p4), (.int p5)] below meth c s₁ [] 0 0 := Stand.of_body Bd
  have e0 : s₁.heap = h0 := by rw [← hh, Bd.state]; rfl
  have N0 := Fr.nil n0
  show OwnWp p e below s ({ frames := 1, cells := 0, slots := 0, locals := 14 } : Room).cells ({ frames := 1, cells := 0, slots := 0, locals := 14 } : Room).slots (Q23 Z a1 p1 a2 a3 p4 p5 mm ar ex on h0 n0) (s₁.setTop (entryFrame m #[(.ref a1), (.int p1), (.ref a2), (.ref a3), (.int p4), (.int p5)] 6))
  refine OwnWp.cast (ef_23 m a1 p1 a2 a3 p4 p5) ?_
  show OwnWp p e below s _ _ _ (s₁.setTop (mkF m 0 #[.val (.ref a1), .val (.int p1), .val (.ref a2), .val (.ref a3), .val (.int p4), .val (.int p5)] []))
  refine OwnWp.step (U' := s₁.setTop (mkF m 3 #[.val (.ref a1), .val (.int p1), .val (.ref a2), .val (.ref a3), .val (.int p4), .val (.int p5)] [(.int (on p1.toInt))])) (fun t k => ?_) ?_
  · show Steps p.tables e below (s₁.setTop (mkF m 0 #[.val (.ref a1), .val (.int p1), .val (.ref a2), .val (.ref a3), .val (.int p4), .val (.int p5)] [])) _
    refine XS.aloadN X0.here hx rfl (hb hby d23_0) rfl rfl ?_
    show Steps p.tables e below (s₁.setTop (mkF m 1 #[.val (.ref a1), .val (.int p1), .val (.ref a2), .val (.ref a3), .val (.int p4), .val (.int p5)] [(.ref a3)])) _
    refine XS.iloadN X0.here hx rfl (hb hby d23_1) rfl ?_
    show Steps p.tables e below (s₁.setTop (mkF m 2 #[.val (.ref a1), .val (.int p1), .val (.ref a2), .val (.ref a3), .val (.int p4), .val (.int p5)] [(.int p1), (.ref a3)])) _
    refine OwnA.ldZ X0 hx hZ e0 A2 h1.1 (by rw [show (4 : Int32).toInt = 4 from rfl]; exact h1.2) rfl rfl (hb hby d23_2) ?_
    show Steps p.tables e below (s₁.setTop (mkF m 3 #[.val (.ref a1), .val (.int p1), .val (.ref a2), .val (.ref a3), .val (.int p4), .val (.int p5)] [(.int (on p1.toInt))])) _
    exact k
  by_cases c3_297 : (on p1.toInt) = (0 : Int32)
  · refine OwnWp.step (U' := s₁.setTop (mkF m 6 #[.val (.ref a1), .val (.int p1), .val (.ref a2), .val (.ref a3), .val (.int p4), .val (.int p5)] [])) (fun t k => ?_) ?_
    · show Steps p.tables e below (s₁.setTop (mkF m 3 #[.val (.ref a1), .val (.int p1), .val (.ref a2), .val (.ref a3), .val (.int p4), .val (.int p5)] [(.int (on p1.toInt))])) _
      refine XS.ifNo X0.here hx rfl (hb hby d23_3) rfl (XT.i0_ne_f c3_297) ?_
      exact k
    refine OwnWp.step (U' := s₁.setTop (mkF m 7 #[.val (.ref a1), .val (.int p1), .val (.ref a2), .val (.ref a3), .val (.int p4), .val (.int p5)] [(.int (1 : Int32))])) (fun t k => ?_) ?_
    · show Steps p.tables e below (s₁.setTop (mkF m 6 #[.val (.ref a1), .val (.int p1), .val (.ref a2), .val (.ref a3), .val (.int p4), .val (.int p5)] [])) _
      refine XT.iconstV X0.here hx rfl (1 : Int32) (hb hby d23_6) rfl ?_
      show Steps p.tables e below (s₁.setTop (mkF m 7 #[.val (.ref a1), .val (.int p1), .val (.ref a2), .val (.ref a3), .val (.int p4), .val (.int p5)] [(.int (1 : Int32))])) _
      exact k
    refine OwnWp.retZ X0 hx hlk Bd.returns (hb hby d23_7) (by decide) (by decide) (by decide) ?_
    exact ⟨by unfold own_covered; rw [if_pos c3_297], N0, e0⟩
  · refine OwnWp.step (U' := s₁.setTop (mkF m 8 #[.val (.ref a1), .val (.int p1), .val (.ref a2), .val (.ref a3), .val (.int p4), .val (.int p5)] [])) (fun t k => ?_) ?_
    · show Steps p.tables e below (s₁.setTop (mkF m 3 #[.val (.ref a1), .val (.int p1), .val (.ref a2), .val (.ref a3), .val (.int p4), .val (.int p5)] [(.int (on p1.toInt))])) _
      refine XS.ifYes X0.here hx rfl (pc0 := 3) (pc' := 8) rfl (hb hby d23_3) rfl (XT.i0_ne_t c3_297) (by decide) (by decide) ?_
      exact k
    refine OwnWp.step (U' := s₁.setTop (mkF m 10 #[.val (.ref a1), .val (.int p1), .val (.ref a2), .val (.ref a3), .val (.int p4), .val (.int p5)] [(.int p4)])) (fun t k => ?_) ?_
    · show Steps p.tables e below (s₁.setTop (mkF m 8 #[.val (.ref a1), .val (.int p1), .val (.ref a2), .val (.ref a3), .val (.int p4), .val (.int p5)] [])) _
      refine XS.iload X0.here hx rfl (hb hby d23_8) rfl ?_
      show Steps p.tables e below (s₁.setTop (mkF m 10 #[.val (.ref a1), .val (.int p1), .val (.ref a2), .val (.ref a3), .val (.int p4), .val (.int p5)] [(.int p4)])) _
      exact k
    by_cases c10_298 : p4 = (0 : Int32)
    · refine OwnWp.step (U' := s₁.setTop (mkF m 23 #[.val (.ref a1), .val (.int p1), .val (.ref a2), .val (.ref a3), .val (.int p4), .val (.int p5)] [])) (fun t k => ?_) ?_
      · show Steps p.tables e below (s₁.setTop (mkF m 10 #[.val (.ref a1), .val (.int p1), .val (.ref a2), .val (.ref a3), .val (.int p4), .val (.int p5)] [(.int p4)])) _
        refine XS.ifYes X0.here hx rfl (pc0 := 10) (pc' := 23) rfl (hb hby d23_10) rfl (XT.i0_eq_t c10_298) (by decide) (by decide) ?_
        exact k
      refine OwnWp.step (U' := s₁.setTop (mkF m 27 #[.val (.ref a1), .val (.int p1), .val (.ref a2), .val (.ref a3), .val (.int p4), .val (.int p5)] [(.int (ex p1.toInt)), (.ref a1)])) (fun t k => ?_) ?_
      · show Steps p.tables e below (s₁.setTop (mkF m 23 #[.val (.ref a1), .val (.int p1), .val (.ref a2), .val (.ref a3), .val (.int p4), .val (.int p5)] [])) _
        refine XS.aloadN X0.here hx rfl (hb hby d23_23) rfl rfl ?_
        show Steps p.tables e below (s₁.setTop (mkF m 24 #[.val (.ref a1), .val (.int p1), .val (.ref a2), .val (.ref a3), .val (.int p4), .val (.int p5)] [(.ref a1)])) _
        refine XS.aloadN X0.here hx rfl (hb hby d23_24) rfl rfl ?_
        show Steps p.tables e below (s₁.setTop (mkF m 25 #[.val (.ref a1), .val (.int p1), .val (.ref a2), .val (.ref a3), .val (.int p4), .val (.int p5)] [(.ref a2), (.ref a1)])) _
        refine XS.iloadN X0.here hx rfl (hb hby d23_25) rfl ?_
        show Steps p.tables e below (s₁.setTop (mkF m 26 #[.val (.ref a1), .val (.int p1), .val (.ref a2), .val (.ref a3), .val (.int p4), .val (.int p5)] [(.int p1), (.ref a2), (.ref a1)])) _
        refine OwnA.ldI X0 hx hZ e0 A1 h1.1 (by rw [show (4 : Int32).toInt = 4 from rfl]; exact h1.2) rfl rfl (hb hby d23_26) ?_
        show Steps p.tables e below (s₁.setTop (mkF m 27 #[.val (.ref a1), .val (.int p1), .val (.ref a2), .val (.ref a3), .val (.int p4), .val (.int p5)] [(.int (ex p1.toInt)), (.ref a1)])) _
        exact k
      obtain ⟨_, _, ⟨T299, L299, k299, n299⟩, -, X299, ⟨Lc299, hQ299, l299, y299, z299⟩, st299⟩ := Jvm.LawKit.callS X0 hx (y := (⟨"com/example/utu/utu/SlotNumbersToArrayPinLaw", "has", "([II)Z"⟩ : MethodName)) hown (mvT hZ (hw _ (List.mem_of_getElem? (i := 112) rfl))) (mvT hZ (hw _ (List.mem_of_getElem? (i := 113) rfl))) (mvT hZ (hw _ (List.mem_of_getElem? (i := 2) rfl))) (mvT hZ (hw _ (List.mem_of_getElem? (i := 114) rfl))) (by decide) (backOf (W := 0) (rm24 l Z a0 hw [] a1 (ex p1.toInt) mm ar h0 n0 Z0 A0) hZ (hw _ (List.mem_of_getElem? (i := 114) rfl)) (hw _ (List.mem_of_getElem? (i := 2) rfl)) (by decide) (by decide)) (g := (mkF m 27 #[.val (.ref a1), .val (.int p1), .val (.ref a2), .val (.ref a3), .val (.int p4), .val (.int p5)] [(.int (ex p1.toInt)), (.ref a1)])) rfl (by rw [hml]; rfl) (argsL := [(.ref a1), (.int (ex p1.toInt))]) (rest := []) (lenOf pd_24 rfl) rfl (by show 2 * 0 + _ ≤ _; exact Nat.le_of_eq rfl) (hb hby d23_27) (fun _ _ => ⟨rfl, e0, (by dsimp only [Pt.cells]; decide), (by dsimp only [Pt.slots]; decide)⟩)
      dsimp only [Pt.U, Pt.locs, Pt.cells, Pt.slots] at X299 l299 y299 z299 st299 hQ299
      subst l299 y299 z299
      obtain ⟨rfl, Nc299, hp299⟩ := hQ299
      have N299 := Fr.app N0 Nc299
      refine OwnWp.step st299 ?_
      have eh299 : T299.heap = h0 := hp299
      show OwnWp p e below s _ _ _ (T299.setTop (mkF m 30 #[.val (.ref a1), .val (.int p1), .val (.ref a2), .val (.ref a3), .val (.int p4), .val (.int p5)] [(.int (own_has mm ar (ex p1.toInt)))]))
      refine OwnWp.retZ X299 hx hlk Bd.returns (hb hby d23_30) (by decide) (by decide) (own_has01 _ _ _) ?_
      exact ⟨by unfold own_covered; rw [if_neg c3_297, if_pos c10_298], N299, eh299⟩
    · refine OwnWp.step (U' := s₁.setTop (mkF m 13 #[.val (.ref a1), .val (.int p1), .val (.ref a2), .val (.ref a3), .val (.int p4), .val (.int p5)] [])) (fun t k => ?_) ?_
      · show Steps p.tables e below (s₁.setTop (mkF m 10 #[.val (.ref a1), .val (.int p1), .val (.ref a2), .val (.ref a3), .val (.int p4), .val (.int p5)] [(.int p4)])) _
        refine XS.ifNo X0.here hx rfl (hb hby d23_10) rfl (XT.i0_eq_f c10_298) ?_
        exact k
      refine OwnWp.step (U' := s₁.setTop (mkF m 18 #[.val (.ref a1), .val (.int p1), .val (.ref a2), .val (.ref a3), .val (.int p4), .val (.int p5)] [(.int p5), (.int (ex p1.toInt))])) (fun t k => ?_) ?_
      · show Steps p.tables e below (s₁.setTop (mkF m 13 #[.val (.ref a1), .val (.int p1), .val (.ref a2), .val (.ref a3), .val (.int p4), .val (.int p5)] [])) _
        refine XS.aloadN X0.here hx rfl (hb hby d23_13) rfl rfl ?_
        show Steps p.tables e below (s₁.setTop (mkF m 14 #[.val (.ref a1), .val (.int p1), .val (.ref a2), .val (.ref a3), .val (.int p4), .val (.int p5)] [(.ref a2)])) _
        refine XS.iloadN X0.here hx rfl (hb hby d23_14) rfl ?_
        show Steps p.tables e below (s₁.setTop (mkF m 15 #[.val (.ref a1), .val (.int p1), .val (.ref a2), .val (.ref a3), .val (.int p4), .val (.int p5)] [(.int p1), (.ref a2)])) _
        refine OwnA.ldI X0 hx hZ e0 A1 h1.1 (by rw [show (4 : Int32).toInt = 4 from rfl]; exact h1.2) rfl rfl (hb hby d23_15) ?_
        show Steps p.tables e below (s₁.setTop (mkF m 16 #[.val (.ref a1), .val (.int p1), .val (.ref a2), .val (.ref a3), .val (.int p4), .val (.int p5)] [(.int (ex p1.toInt))])) _
        refine XS.iload X0.here hx rfl (hb hby d23_16) rfl ?_
        show Steps p.tables e below (s₁.setTop (mkF m 18 #[.val (.ref a1), .val (.int p1), .val (.ref a2), .val (.ref a3), .val (.int p4), .val (.int p5)] [(.int p5), (.int (ex p1.toInt))])) _
        exact k
      by_cases c18_300 : (ex p1.toInt) = p5
      · refine OwnWp.step (U' := s₁.setTop (mkF m 21 #[.val (.ref a1), .val (.int p1), .val (.ref a2), .val (.ref a3), .val (.int p4), .val (.int p5)] [])) (fun t k => ?_) ?_
        · show Steps p.tables e below (s₁.setTop (mkF m 18 #[.val (.ref a1), .val (.int p1), .val (.ref a2), .val (.ref a3), .val (.int p4), .val (.int p5)] [(.int p5), (.int (ex p1.toInt))])) _
          refine XS.icmpNo X0.here hx rfl (hb hby d23_18) rfl (XT.ii_ne_f c18_300) ?_
          exact k
        refine OwnWp.step (U' := s₁.setTop (mkF m 22 #[.val (.ref a1), .val (.int p1), .val (.ref a2), .val (.ref a3), .val (.int p4), .val (.int p5)] [(.int (1 : Int32))])) (fun t k => ?_) ?_
        · show Steps p.tables e below (s₁.setTop (mkF m 21 #[.val (.ref a1), .val (.int p1), .val (.ref a2), .val (.ref a3), .val (.int p4), .val (.int p5)] [])) _
          refine XT.iconstV X0.here hx rfl (1 : Int32) (hb hby d23_21) rfl ?_
          show Steps p.tables e below (s₁.setTop (mkF m 22 #[.val (.ref a1), .val (.int p1), .val (.ref a2), .val (.ref a3), .val (.int p4), .val (.int p5)] [(.int (1 : Int32))])) _
          exact k
        refine OwnWp.retZ X0 hx hlk Bd.returns (hb hby d23_22) (by decide) (by decide) (by decide) ?_
        exact ⟨by unfold own_covered; rw [if_neg c3_297, if_neg c10_298, if_pos c18_300], N0, e0⟩
      · refine OwnWp.step (U' := s₁.setTop (mkF m 23 #[.val (.ref a1), .val (.int p1), .val (.ref a2), .val (.ref a3), .val (.int p4), .val (.int p5)] [])) (fun t k => ?_) ?_
        · show Steps p.tables e below (s₁.setTop (mkF m 18 #[.val (.ref a1), .val (.int p1), .val (.ref a2), .val (.ref a3), .val (.int p4), .val (.int p5)] [(.int p5), (.int (ex p1.toInt))])) _
          refine XS.icmpYes X0.here hx rfl (pc0 := 18) (pc' := 23) rfl (hb hby d23_18) rfl (XT.ii_ne_t c18_300) (by decide) (by decide) ?_
          exact k
        refine OwnWp.step (U' := s₁.setTop (mkF m 27 #[.val (.ref a1), .val (.int p1), .val (.ref a2), .val (.ref a3), .val (.int p4), .val (.int p5)] [(.int (ex p1.toInt)), (.ref a1)])) (fun t k => ?_) ?_
        · show Steps p.tables e below (s₁.setTop (mkF m 23 #[.val (.ref a1), .val (.int p1), .val (.ref a2), .val (.ref a3), .val (.int p4), .val (.int p5)] [])) _
          refine XS.aloadN X0.here hx rfl (hb hby d23_23) rfl rfl ?_
          show Steps p.tables e below (s₁.setTop (mkF m 24 #[.val (.ref a1), .val (.int p1), .val (.ref a2), .val (.ref a3), .val (.int p4), .val (.int p5)] [(.ref a1)])) _
          refine XS.aloadN X0.here hx rfl (hb hby d23_24) rfl rfl ?_
          show Steps p.tables e below (s₁.setTop (mkF m 25 #[.val (.ref a1), .val (.int p1), .val (.ref a2), .val (.ref a3), .val (.int p4), .val (.int p5)] [(.ref a2), (.ref a1)])) _
          refine XS.iloadN X0.here hx rfl (hb hby d23_25) rfl ?_
          show Steps p.tables e below (s₁.setTop (mkF m 26 #[.val (.ref a1), .val (.int p1), .val (.ref a2), .val (.ref a3), .val (.int p4), .val (.int p5)] [(.int p1), (.ref a2), (.ref a1)])) _
          refine OwnA.ldI X0 hx hZ e0 A1 h1.1 (by rw [show (4 : Int32).toInt = 4 from rfl]; exact h1.2) rfl rfl (hb hby d23_26) ?_
          show Steps p.tables e below (s₁.setTop (mkF m 27 #[.val (.ref a1), .val (.int p1), .val (.ref a2), .val (.ref a3), .val (.int p4), .val (.int p5)] [(.int (ex p1.toInt)), (.ref a1)])) _
          exact k
        obtain ⟨_, _, ⟨T301, L301, k301, n301⟩, -, X301, ⟨Lc301, hQ301, l301, y301, z301⟩, st301⟩ := Jvm.LawKit.callS X0 hx (y := (⟨"com/example/utu/utu/SlotNumbersToArrayPinLaw", "has", "([II)Z"⟩ : MethodName)) hown (mvT hZ (hw _ (List.mem_of_getElem? (i := 112) rfl))) (mvT hZ (hw _ (List.mem_of_getElem? (i := 113) rfl))) (mvT hZ (hw _ (List.mem_of_getElem? (i := 2) rfl))) (mvT hZ (hw _ (List.mem_of_getElem? (i := 114) rfl))) (by decide) (backOf (W := 0) (rm24 l Z a0 hw [] a1 (ex p1.toInt) mm ar h0 n0 Z0 A0) hZ (hw _ (List.mem_of_getElem? (i := 114) rfl)) (hw _ (List.mem_of_getElem? (i := 2) rfl)) (by decide) (by decide)) (g := (mkF m 27 #[.val (.ref a1), .val (.int p1), .val (.ref a2), .val (.ref a3), .val (.int p4), .val (.int p5)] [(.int (ex p1.toInt)), (.ref a1)])) rfl (by rw [hml]; rfl) (argsL := [(.ref a1), (.int (ex p1.toInt))]) (rest := []) (lenOf pd_24 rfl) rfl (by show 2 * 0 + _ ≤ _; exact Nat.le_of_eq rfl) (hb hby d23_27) (fun _ _ => ⟨rfl, e0, (by dsimp only [Pt.cells]; decide), (by dsimp only [Pt.slots]; decide)⟩)
        dsimp only [Pt.U, Pt.locs, Pt.cells, Pt.slots] at X301 l301 y301 z301 st301 hQ301
        subst l301 y301 z301
        obtain ⟨rfl, Nc301, hp301⟩ := hQ301
        have N301 := Fr.app N0 Nc301
        refine OwnWp.step st301 ?_
        have eh301 : T301.heap = h0 := hp301
        show OwnWp p e below s _ _ _ (T301.setTop (mkF m 30 #[.val (.ref a1), .val (.int p1), .val (.ref a2), .val (.ref a3), .val (.int p4), .val (.int p5)] [(.int (own_has mm ar (ex p1.toInt)))]))
        refine OwnWp.retZ X301 hx hlk Bd.returns (hb hby d23_30) (by decide) (by decide) (own_has01 _ _ _) ?_
        exact ⟨by unfold own_covered; rw [if_neg c3_297, if_neg c10_298, if_neg c18_300], N301, eh301⟩
def own_ex (p q r t : Int32) (i : Int) : Int32 := if i = 0 then p else if i = 1 then q else if i = 2 then r else t
def own_on (a b : Int32) (i : Int) : Int32 := if i = 0 then 1 else if i = 1 then 1 else if i = 2 then a else b
def own_S (p q r t aR aT rv rm y : Int32) : Prop := (y = p ∨ y = q ∨ (aR ≠ 0 ∧ y = r) ∨ (aT ≠ 0 ∧ y = t)) ∧ (rv = 0 ∨ y ≠ rm)
theorem own_posne2 (x : Int32) : own_pos x ≠ 0 := by
  unfold own_pos own_pos_w2
  split
  · decide
  · assumption
theorem own_posne (x w : Int32) (q : w = own_pos x) : w ≠ 0 := by rw [q]; exact own_posne2 x
theorem own_bit01 (x c w : Int32) (q : w = (if (x &&& c) = (0 : Int32) then (0 : Int32) else (1 : Int32))) : w = 0 ∨ w = 1 := by
  rw [q]; split
  · exact Or.inl rfl
  · exact Or.inr rfl
theorem own_S0 (p q r t rm y : Int32) : (y = p ∨ y = q) ↔ own_S p q r t (0 : Int32) (0 : Int32) (0 : Int32) rm y := by
  unfold own_S
  constructor
  · rintro (h | h)
    · exact ⟨Or.inl h, Or.inl rfl⟩
    · exact ⟨Or.inr (Or.inl h), Or.inl rfl⟩
  · rintro ⟨h | h | ⟨h, _⟩ | ⟨h, _⟩, _⟩
    · exact Or.inl h
    · exact Or.inr h
    · exact absurd rfl h
    · exact absurd rfl h
theorem own_S1_no {M : Int32 → Prop} {p q r t aR rm : Int32} (h : ∀ y : Int32, y ≠ 0 → (M y ↔ own_S p q r t (0 : Int32) (0 : Int32) (0 : Int32) rm y)) (c : aR = 0) (y : Int32) (hy : y ≠ 0) : M y ↔ own_S p q r t aR (0 : Int32) (0 : Int32) rm y := by rw [c]; exact h y hy
theorem own_S1_yes {M N : Int32 → Prop} {p q r t aR rm : Int32} (h : ∀ y : Int32, y ≠ 0 → (M y ↔ own_S p q r t (0 : Int32) (0 : Int32) (0 : Int32) rm y)) (hn : ∀ y : Int32, y ≠ 0 → (N y ↔ (M y ∨ y = r))) (c : ¬ aR = 0) (y : Int32) (hy : y ≠ 0) : N y ↔ own_S p q r t aR (0 : Int32) (0 : Int32) rm y := by
  rw [hn y hy, h y hy, ← own_S0]
  unfold own_S
  constructor
  · rintro ((h | h) | h)
    · exact ⟨Or.inl h, Or.inl rfl⟩
    · exact ⟨Or.inr (Or.inl h), Or.inl rfl⟩
    · exact ⟨Or.inr (Or.inr (Or.inl ⟨c, h⟩)), Or.inl rfl⟩
  · rintro ⟨h | h | ⟨_, h⟩ | ⟨h, _⟩, _⟩
    · exact Or.inl (Or.inl h)
    · exact Or.inl (Or.inr h)
    · exact Or.inr h
    · exact absurd rfl h
theorem own_S2_no {M : Int32 → Prop} {p q r t aR aT rm : Int32} (h : ∀ y : Int32, y ≠ 0 → (M y ↔ own_S p q r t aR (0 : Int32) (0 : Int32) rm y)) (c : aT = 0) (y : Int32) (hy : y ≠ 0) : M y ↔ own_S p q r t aR aT (0 : Int32) rm y := by rw [c]; exact h y hy
theorem own_S2_yes {M N : Int32 → Prop} {p q r t aR aT rm : Int32} (h : ∀ y : Int32, y ≠ 0 → (M y ↔ own_S p q r t aR (0 : Int32) (0 : Int32) rm y)) (hn : ∀ y : Int32, y ≠ 0 → (N y ↔ (M y ∨ y = t))) (c : ¬ aT = 0) (y : Int32) (hy : y ≠ 0) : N y ↔ own_S p q r t aR aT (0 : Int32) rm y := by
  rw [hn y hy, h y hy]
  unfold own_S
  constructor
  · rintro (⟨h | h | h | ⟨h, _⟩, _⟩ | h)
    · exact ⟨Or.inl h, Or.inl rfl⟩
    · exact ⟨Or.inr (Or.inl h), Or.inl rfl⟩
    · exact ⟨Or.inr (Or.inr (Or.inl h)), Or.inl rfl⟩
    · exact absurd rfl h
    · exact ⟨Or.inr (Or.inr (Or.inr ⟨c, h⟩)), Or.inl rfl⟩
  · rintro ⟨h | h | h | ⟨_, h⟩, _⟩
    · exact Or.inl ⟨Or.inl h, Or.inl rfl⟩
    · exact Or.inl ⟨Or.inr (Or.inl h), Or.inl rfl⟩
    · exact Or.inl ⟨Or.inr (Or.inr (Or.inl h)), Or.inl rfl⟩
    · exact Or.inr h
theorem own_S3_no {M : Int32 → Prop} {p q r t aR aT rv rm : Int32} (h : ∀ y : Int32, y ≠ 0 → (M y ↔ own_S p q r t aR aT (0 : Int32) rm y)) (c : rv = 0) (y : Int32) (hy : y ≠ 0) : M y ↔ own_S p q r t aR aT rv rm y := by rw [c]; exact h y hy
theorem own_S3_yes {M N : Int32 → Prop} {p q r t aR aT rv rm : Int32} (h : ∀ y : Int32, y ≠ 0 → (M y ↔ own_S p q r t aR aT (0 : Int32) rm y)) (hn : ∀ y : Int32, y ≠ 0 → (N y ↔ (M y ∧ y ≠ rm))) (c : ¬ rv = 0) (y : Int32) (hy : y ≠ 0) : N y ↔ own_S p q r t aR aT rv rm y := by
  rw [hn y hy, h y hy]
  unfold own_S
  constructor
  · rintro ⟨⟨h1, _⟩, h2⟩; exact ⟨h1, Or.inr h2⟩
  · rintro ⟨h1, h2⟩; exact ⟨⟨h1, Or.inl rfl⟩, h2.resolve_left c⟩
theorem own_fin4 {nn : Int32} {f : Int → Int32} {s : Int32} (h : own_tfin nn f s) : ¬ (4 : Int32) < s := by
  have hp := own_len_pos h.1
  have h4 := h.2.2.2
  rw [Int32.lt_iff_toInt_lt, show (4 : Int32).toInt = 4 from rfl]; omega
theorem own_inSet1 {p q r t aR aT rv rm x : Int32} (h : own_S p q r t aR aT rv rm x) : own_inSet x (own_ex p q r t) (own_on aR aT) rv rm = 1 := by
  obtain ⟨h1, h2⟩ := h
  have e0 : own_on aR aT (0 : Int32).toInt = 1 := rfl
  have e1 : own_on aR aT (1 : Int32).toInt = 1 := rfl
  have e2 : own_on aR aT (2 : Int32).toInt = aR := rfl
  have e3 : own_on aR aT (3 : Int32).toInt = aT := rfl
  have f0 : own_ex p q r t (0 : Int32).toInt = p := rfl
  have f1 : own_ex p q r t (1 : Int32).toInt = q := rfl
  have f2 : own_ex p q r t (2 : Int32).toInt = r := rfl
  have f3 : own_ex p q r t (3 : Int32).toInt = t := rfl
  have n1 : ¬ (1 : Int32) = 0 := by decide
  unfold own_inSet own_ins4
  simp only [e0, e1, e2, e3, f0, f1, f2, f3, n1, if_false]
  have key : (if x = p then (1 : Int32) else if x = q then 1 else if aR = 0 then (if aT = 0 then 0 else if x = t then 1 else 0) else if x = r then 1 else if aT = 0 then 0 else if x = t then 1 else 0) = 1 := by
    rcases h1 with h | h | ⟨h, h'⟩ | ⟨h, h'⟩ <;> repeat (first | rfl | contradiction | split)
  by_cases hv : rv = 0
  · simp only [hv, if_true]; exact key
  · have hr := h2.resolve_left hv
    simp only [hv, hr, if_false]; exact key
theorem own_entry1 {nn ss : Int32} {f ar : Int → Int32} {p q r t aR aT rv rm : Int32} (hA : own_arr f ar nn.toInt ss.toInt) (mj : ∀ y : Int32, y ≠ 0 → (own_mem nn.toInt f y ↔ own_S p q r t aR aT rv rm y)) (k : Int32) (hk : 0 ≤ k.toInt) : own_entry ss ar k (own_ex p q r t) (own_on aR aT) rv rm = 1 := by
  unfold own_entry
  by_cases c : k < ss
  · rw [if_pos c]
    have m := own_arr_mem hA k.toInt hk (Int32.lt_iff_toInt_lt.mp c)
    rw [own_inSet1 ((mj _ m.1).mp m.2)]; rfl
  · rw [if_neg c]
theorem own_apart1 {nn ss : Int32} {f ar : Int → Int32} (hA : own_arr f ar nn.toInt ss.toInt) (ij : own_tfin nn f ss) (i j : Int32) (h1 : 0 ≤ i.toInt) (h2 : i.toInt < j.toInt) : own_apart ss ar i j = 1 := by
  unfold own_apart own_apart_w1
  by_cases c : j < ss
  · rw [if_pos c, if_neg (own_arr_inj hA ij.2.1 i.toInt j.toInt h1 h2 (Int32.lt_iff_toInt_lt.mp c))]
  · rw [if_neg c]
theorem own_has1 {ss x : Int32} {ar : Int → Int32} (h4 : ss.toInt ≤ 4) (h : ∃ j : Int, 0 ≤ j ∧ j < ss.toInt ∧ ar j = x) : own_has ss ar x = 1 := by
  obtain ⟨j, h1, h2, h3⟩ := h
  have l0 : (0 : Int32) < ss ↔ 0 < ss.toInt := Int32.lt_iff_toInt_lt
  have l1 : (1 : Int32) < ss ↔ 1 < ss.toInt := Int32.lt_iff_toInt_lt
  have l2 : (2 : Int32) < ss ↔ 2 < ss.toInt := Int32.lt_iff_toInt_lt
  have l3 : (3 : Int32) < ss ↔ 3 < ss.toInt := Int32.lt_iff_toInt_lt
  have e0 : (0 : Int32).toInt = 0 := rfl
  have e1 : (1 : Int32).toInt = 1 := rfl
  have e2 : (2 : Int32).toInt = 2 := rfl
  have e3 : (3 : Int32).toInt = 3 := rfl
  have hc : j = 0 ∨ j = 1 ∨ j = 2 ∨ j = 3 := by omega
  unfold own_has own_has_w1
  simp only [l0, l1, l2, l3, e0, e1, e2, e3]
  rcases hc with rfl | rfl | rfl | rfl
  · rw [if_pos (by omega), if_pos h3]
  · repeat (first | rfl | (exfalso; omega) | contradiction | split)
  · repeat (first | rfl | (exfalso; omega) | contradiction | split)
  · repeat (first | rfl | (exfalso; omega) | contradiction | split)
theorem own_covered1 {nn ss : Int32} {f ar : Int → Int32} {p q r t aR aT rv rm : Int32} (hA : own_arr f ar nn.toInt ss.toInt) (mj : ∀ y : Int32, y ≠ 0 → (own_mem nn.toInt f y ↔ own_S p q r t aR aT rv rm y)) (ij : own_tfin nn f ss) (zp : p ≠ 0) (zq : q ≠ 0) (zr : r ≠ 0) (zt : t ≠ 0) (k : Int32) (hk : 0 ≤ k.toInt ∧ k.toInt < 4) :
    own_covered ss ar k (own_ex p q r t) (own_on aR aT) rv rm = 1 := by
  have hp := own_len_pos ij.1
  have h8 := ij.2.2.2
  have main : own_on aR aT k.toInt ≠ 0 → (rv = 0 ∨ own_ex p q r t k.toInt ≠ rm) → own_has ss ar (own_ex p q r t k.toInt) = 1 := fun h1 h2 => by
    have hc : k.toInt = 0 ∨ k.toInt = 1 ∨ k.toInt = 2 ∨ k.toInt = 3 := by omega
    have hS : own_S p q r t aR aT rv rm (own_ex p q r t k.toInt) ∧ own_ex p q r t k.toInt ≠ 0 := by
      rcases hc with h | h | h | h <;> rw [h] at h1 h2 ⊢
      · exact ⟨⟨Or.inl rfl, h2⟩, zp⟩
      · exact ⟨⟨Or.inr (Or.inl rfl), h2⟩, zq⟩
      · exact ⟨⟨Or.inr (Or.inr (Or.inl ⟨h1, rfl⟩)), h2⟩, zr⟩
      · exact ⟨⟨Or.inr (Or.inr (Or.inr ⟨h1, rfl⟩)), h2⟩, zt⟩
    exact own_has1 (by omega) (own_arr_has hA hS.2 ((mj _ hS.2).mpr hS.1))
  unfold own_covered
  by_cases c1 : own_on aR aT k.toInt = 0
  · rw [if_pos c1]
  · rw [if_neg c1]
    by_cases c2 : rv = 0
    · rw [if_pos c2]; exact main c1 (Or.inl c2)
    · rw [if_neg c2]
      by_cases c3 : own_ex p q r t k.toInt = rm
      · rw [if_pos c3]
      · rw [if_neg c3]; exact main c1 (Or.inr c3)

theorem own_fillE (w1 w2 w3 w4 : Int32) (i : Int) (h1 : 0 ≤ i) (h2 : i < (4 : Int32).toInt) : Value.int ((ownUpd (ownUpd (ownUpd (ownUpd (fun _ => (0 : Int32)) (0 : Int32).toInt w1) (1 : Int32).toInt w2) (2 : Int32).toInt w3) (3 : Int32).toInt w4) i) = Value.int ((own_ex w1 w2 w3 w4) i) := by
  have h3 : i < 4 := h2
  have hc : i = 0 ∨ i = 1 ∨ i = 2 ∨ i = 3 := by omega
  rcases hc with rfl | rfl | rfl | rfl <;> rfl
theorem own_fillO (w5 w6 : Int32) (hR : w5 = 0 ∨ w5 = 1) (hT : w6 = 0 ∨ w6 = 1) (i : Int) (h1 : 0 ≤ i) (h2 : i < (4 : Int32).toInt) : Value.int ((ownUpd (ownUpd (ownUpd (ownUpd (fun _ => (0 : Int32)) (0 : Int32).toInt (nar .boolean (1 : Int32))) (1 : Int32).toInt (nar .boolean (1 : Int32))) (2 : Int32).toInt (nar .boolean w5)) (3 : Int32).toInt (nar .boolean w6)) i) = Value.int ((own_on w5 w6) i) := by
  have h3 : i < 4 := h2
  have hc : i = 0 ∨ i = 1 ∨ i = 2 ∨ i = 3 := by omega
  rcases hR with rfl | rfl <;> rcases hT with rfl | rfl <;> rcases hc with rfl | rfl | rfl | rfl <;> rfl
theorem pn_0 : plainFor (⟨"com/example/utu/utu/SlotNumbersToArrayPinLaw", "law", "(IIIIII)Z"⟩ : MethodName) = true := plainFor_of_name (by first | (simp [plainName, overriddenIn]; done) | decide +kernel)
theorem pd_0 : parseMethodDescriptor "(IIIIII)Z" = some ⟨[.int, .int, .int, .int, .int, .int], some .boolean⟩ := by decide +kernel
theorem ef_0 (m : MethodId) (x0 : Int32) (x1 : Int32) (x2 : Int32) (x3 : Int32) (x4 : Int32) (x5 : Int32) : entryFrame m #[(.int x0), (.int x1), (.int x2), (.int x3), (.int x4), (.int x5)] maxLocals = mkF m 0 #[.val (.int x0), .val (.int x1), .val (.int x2), .val (.int x3), .val (.int x4), .val (.int x5), .unset, .unset, .unset, .unset, .unset, .unset, .unset, .unset, .unset, .unset, .unset, .unset, .unset, .unset] [] := by first | (simp [entryFrame, mkF, argsToLocals, Value.category, maxLocals]; done) | rfl
def Q0 (Z : State) (p1 : Int32) (p2 : Int32) (p3 : Int32) (p4 : Int32) (p5 : Int32) (p6 : Int32)  (h0 : Heap) (n0 : Nat) (v : Option Value) (h : Heap) (L : List Loc) : Prop := v = some (.int 1) ∧ Fr n0 L
set_option maxRecDepth 65536 in
set_option maxHeartbeats 40000000 in
theorem rm0 (l : Launch) (Z : State) (a0 : Array Value) (hw : ∀ d ∈ tables_1, d.before a0 Z = true) (ws : List Jvm.Cond) (p1 : Int32) (p2 : Int32) (p3 : Int32) (p4 : Int32) (p5 : Int32) (p6 : Int32)  (h0 : Heap) (n0 : Nat) (Z0 : n0 ≤ h0.size)  :
    MetFree l x (head1 (Jvm.Cond.code x code maxLocals ret :: ws) room_1) (fun a U => a = #[(.int p1), (.int p2), (.int p3), (.int p4), (.int p5), (.int p6)] ∧ Z.Warmed39 U.vm ∧ U.heap = h0) (fun _ _ _ _ _ => True) (fun _ U oc U' => ∃ v L, oc = .returned v ∧ Q0 Z p1 p2 p3 p4 p5 p6  h0 n0 v U'.heap L ∧ FrameEnd U oc U' L room_1.cells room_1.slots) := by
  refine MetFree.of_bodySF pn_0 hisR ?_
  intro p e s m args below meth c s₁ Bd hml0 hP hK
  obtain ⟨rfl, hZ, hh⟩ := hP
  have hx := Bd.exec
  have hby := Bd.bytes
  have hlk := BodyLoose.notSynchronized Bd
  have hml : c.maxLocals = 20 := hml0
  have hown : s.vm.findClass "com/example/utu/utu/SlotNumbersToArrayPinLaw" = some m.cls := findClass_of_methodNamed Bd.named
  have hnm := (name_of_methodNamed Bd.named Bd.method).1
  have X0 : Stand p l e room_1 s m #[(.int p1), (.int p2), (.int p3), (.int p4), (.int p5), (.int p6)] below meth c s₁ [] 0 0 := Stand.of_body Bd
  have e0 : s₁.heap = h0 := by rw [← hh, Bd.state]; rfl
  have N0 := Fr.nil n0
  show OwnWp p e below s room_1.cells room_1.slots (Q0 Z p1 p2 p3 p4 p5 p6  h0 n0) (s₁.setTop (entryFrame m #[(.int p1), (.int p2), (.int p3), (.int p4), (.int p5), (.int p6)] maxLocals))
  refine OwnWp.cast (ef_0 m p1 p2 p3 p4 p5 p6) ?_
  show OwnWp p e below s _ _ _ (s₁.setTop (mkF m 0 #[.val (.int p1), .val (.int p2), .val (.int p3), .val (.int p4), .val (.int p5), .val (.int p6), .unset, .unset, .unset, .unset, .unset, .unset, .unset, .unset, .unset, .unset, .unset, .unset, .unset, .unset] []))
  refine OwnWp.step (U' := s₁.setTop (mkF m 1 #[.val (.int p1), .val (.int p2), .val (.int p3), .val (.int p4), .val (.int p5), .val (.int p6), .unset, .unset, .unset, .unset, .unset, .unset, .unset, .unset, .unset, .unset, .unset, .unset, .unset, .unset] [(.int p1)])) (fun t k => ?_) ?_
  · show Steps p.tables e below (s₁.setTop (mkF m 0 #[.val (.int p1), .val (.int p2), .val (.int p3), .val (.int p4), .val (.int p5), .val (.int p6), .unset, .unset, .unset, .unset, .unset, .unset, .unset, .unset, .unset, .unset, .unset, .unset, .unset, .unset] [])) _
    refine XS.iloadN X0.here hx rfl (hb hby at_0) rfl ?_
    show Steps p.tables e below (s₁.setTop (mkF m 1 #[.val (.int p1), .val (.int p2), .val (.int p3), .val (.int p4), .val (.int p5), .val (.int p6), .unset, .unset, .unset, .unset, .unset, .unset, .unset, .unset, .unset, .unset, .unset, .unset, .unset, .unset] [(.int p1)])) _
    exact k
  show OwnWp p e below s _ _ _ (s₁.setTop (mkF m 1 #[.val (.int p1), .val (.int p2), .val (.int p3), .val (.int p4), .val (.int p5), .val (.int p6), .unset, .unset, .unset, .unset, .unset, .unset, .unset, .unset, .unset, .unset, .unset, .unset, .unset, .unset] [(.int p1)]))
  obtain ⟨_, _, ⟨T302, L302, k302, n302⟩, -, X302, ⟨Lc302, hQ302, l302, y302, z302⟩, st302⟩ := Jvm.LawKit.callS X0 hx (y := (⟨"com/example/utu/utu/SlotNumbersToArrayPinLaw", "pos", "(I)I"⟩ : MethodName)) hown (mvT hZ (hw _ (List.mem_of_getElem? (i := 0) rfl))) (mvT hZ (hw _ (List.mem_of_getElem? (i := 1) rfl))) (mvT hZ (hw _ (List.mem_of_getElem? (i := 2) rfl))) (mvT hZ (hw _ (List.mem_of_getElem? (i := 3) rfl))) (by decide) (backOf (W := 0) (rm1 l Z a0 hw [] p1 h0 n0 Z0 ) hZ (hw _ (List.mem_of_getElem? (i := 3) rfl)) (hw _ (List.mem_of_getElem? (i := 2) rfl)) (by decide) (by decide)) (g := (mkF m 1 #[.val (.int p1), .val (.int p2), .val (.int p3), .val (.int p4), .val (.int p5), .val (.int p6), .unset, .unset, .unset, .unset, .unset, .unset, .unset, .unset, .unset, .unset, .unset, .unset, .unset, .unset] [(.int p1)])) rfl (by rw [hml]; rfl) (argsL := [(.int p1)]) (rest := []) (lenOf pd_1 rfl) rfl (by show 2 * 0 + _ ≤ _; exact Nat.le_of_eq rfl) (hb hby at_1) (fun _ _ => ⟨rfl, e0, (by dsimp only [Pt.cells]; decide), (by dsimp only [Pt.slots]; decide)⟩)
  dsimp only [Pt.U, Pt.locs, Pt.cells, Pt.slots] at X302 l302 y302 z302 st302 hQ302
  subst l302 y302 z302
  obtain ⟨rfl, Nc302, hp302⟩ := hQ302
  have N302 := Fr.app N0 Nc302
  refine OwnWp.step st302 ?_
  have eh302 : T302.heap = h0 := hp302
  show OwnWp p e below s _ _ _ (T302.setTop (mkF m 4 #[.val (.int p1), .val (.int p2), .val (.int p3), .val (.int p4), .val (.int p5), .val (.int p6), .unset, .unset, .unset, .unset, .unset, .unset, .unset, .unset, .unset, .unset, .unset, .unset, .unset, .unset] [(.int (own_pos p1))]))
  obtain ⟨w1, qw1⟩ : ∃ z : Int32, z = (own_pos p1) := ⟨_, rfl⟩
  refine OwnWp.step (U' := T302.setTop (mkF m 6 #[.val (.int p1), .val (.int p2), .val (.int p3), .val (.int p4), .val (.int p5), .val (.int p6), .val (.int w1), .unset, .unset, .unset, .unset, .unset, .unset, .unset, .unset, .unset, .unset, .unset, .unset, .unset] [])) (fun t k => ?_) ?_
  · show Steps p.tables e below (T302.setTop (mkF m 4 #[.val (.int p1), .val (.int p2), .val (.int p3), .val (.int p4), .val (.int p5), .val (.int p6), .unset, .unset, .unset, .unset, .unset, .unset, .unset, .unset, .unset, .unset, .unset, .unset, .unset, .unset] [(.int (own_pos p1))])) _
    refine XS.istore X302.here hx rfl (hb hby at_4) rfl (l' := #[.val (.int p1), .val (.int p2), .val (.int p3), .val (.int p4), .val (.int p5), .val (.int p6), .val (.int (own_pos p1)), .unset, .unset, .unset, .unset, .unset, .unset, .unset, .unset, .unset, .unset, .unset, .unset, .unset]) rfl ?_
    show Steps p.tables e below (T302.setTop (mkF m 6 #[.val (.int p1), .val (.int p2), .val (.int p3), .val (.int p4), .val (.int p5), .val (.int p6), .val (.int (own_pos p1)), .unset, .unset, .unset, .unset, .unset, .unset, .unset, .unset, .unset, .unset, .unset, .unset, .unset] [])) _
    rw [qw1] at k
    exact k
  refine OwnWp.step (U' := T302.setTop (mkF m 7 #[.val (.int p1), .val (.int p2), .val (.int p3), .val (.int p4), .val (.int p5), .val (.int p6), .val (.int w1), .unset, .unset, .unset, .unset, .unset, .unset, .unset, .unset, .unset, .unset, .unset, .unset, .unset] [(.int p2)])) (fun t k => ?_) ?_
  · show Steps p.tables e below (T302.setTop (mkF m 6 #[.val (.int p1), .val (.int p2), .val (.int p3), .val (.int p4), .val (.int p5), .val (.int p6), .val (.int w1), .unset, .unset, .unset, .unset, .unset, .unset, .unset, .unset, .unset, .unset, .unset, .unset, .unset] [])) _
    refine XS.iloadN X302.here hx rfl (hb hby at_6) rfl ?_
    show Steps p.tables e below (T302.setTop (mkF m 7 #[.val (.int p1), .val (.int p2), .val (.int p3), .val (.int p4), .val (.int p5), .val (.int p6), .val (.int w1), .unset, .unset, .unset, .unset, .unset, .unset, .unset, .unset, .unset, .unset, .unset, .unset, .unset] [(.int p2)])) _
    exact k
  show OwnWp p e below s _ _ _ (T302.setTop (mkF m 7 #[.val (.int p1), .val (.int p2), .val (.int p3), .val (.int p4), .val (.int p5), .val (.int p6), .val (.int w1), .unset, .unset, .unset, .unset, .unset, .unset, .unset, .unset, .unset, .unset, .unset, .unset, .unset] [(.int p2)]))
  obtain ⟨_, _, ⟨T303, L303, k303, n303⟩, -, X303, ⟨Lc303, hQ303, l303, y303, z303⟩, st303⟩ := Jvm.LawKit.callS X302 hx (y := (⟨"com/example/utu/utu/SlotNumbersToArrayPinLaw", "pos", "(I)I"⟩ : MethodName)) hown (mvT hZ (hw _ (List.mem_of_getElem? (i := 0) rfl))) (mvT hZ (hw _ (List.mem_of_getElem? (i := 1) rfl))) (mvT hZ (hw _ (List.mem_of_getElem? (i := 2) rfl))) (mvT hZ (hw _ (List.mem_of_getElem? (i := 3) rfl))) (by decide) (backOf (W := 0) (rm1 l Z a0 hw [] p2 h0 n0 Z0 ) hZ (hw _ (List.mem_of_getElem? (i := 3) rfl)) (hw _ (List.mem_of_getElem? (i := 2) rfl)) (by decide) (by decide)) (g := (mkF m 7 #[.val (.int p1), .val (.int p2), .val (.int p3), .val (.int p4), .val (.int p5), .val (.int p6), .val (.int w1), .unset, .unset, .unset, .unset, .unset, .unset, .unset, .unset, .unset, .unset, .unset, .unset, .unset] [(.int p2)])) rfl (by rw [hml]; rfl) (argsL := [(.int p2)]) (rest := []) (lenOf pd_1 rfl) rfl (by show 2 * 0 + _ ≤ _; exact Nat.le_of_eq rfl) (hb hby at_7) (fun _ _ => ⟨rfl, eh302, (by dsimp only [Pt.cells]; decide), (by dsimp only [Pt.slots]; decide)⟩)
  dsimp only [Pt.U, Pt.locs, Pt.cells, Pt.slots] at X303 l303 y303 z303 st303 hQ303
  subst l303 y303 z303
  obtain ⟨rfl, Nc303, hp303⟩ := hQ303
  have N303 := Fr.app N302 Nc303
  refine OwnWp.step st303 ?_
  have eh303 : T303.heap = h0 := hp303
  show OwnWp p e below s _ _ _ (T303.setTop (mkF m 10 #[.val (.int p1), .val (.int p2), .val (.int p3), .val (.int p4), .val (.int p5), .val (.int p6), .val (.int w1), .unset, .unset, .unset, .unset, .unset, .unset, .unset, .unset, .unset, .unset, .unset, .unset, .unset] [(.int (own_pos p2))]))
  obtain ⟨w2, qw2⟩ : ∃ z : Int32, z = (own_pos p2) := ⟨_, rfl⟩
  refine OwnWp.step (U' := T303.setTop (mkF m 12 #[.val (.int p1), .val (.int p2), .val (.int p3), .val (.int p4), .val (.int p5), .val (.int p6), .val (.int w1), .val (.int w2), .unset, .unset, .unset, .unset, .unset, .unset, .unset, .unset, .unset, .unset, .unset, .unset] [])) (fun t k => ?_) ?_
  · show Steps p.tables e below (T303.setTop (mkF m 10 #[.val (.int p1), .val (.int p2), .val (.int p3), .val (.int p4), .val (.int p5), .val (.int p6), .val (.int w1), .unset, .unset, .unset, .unset, .unset, .unset, .unset, .unset, .unset, .unset, .unset, .unset, .unset] [(.int (own_pos p2))])) _
    refine XS.istore X303.here hx rfl (hb hby at_10) rfl (l' := #[.val (.int p1), .val (.int p2), .val (.int p3), .val (.int p4), .val (.int p5), .val (.int p6), .val (.int w1), .val (.int (own_pos p2)), .unset, .unset, .unset, .unset, .unset, .unset, .unset, .unset, .unset, .unset, .unset, .unset]) rfl ?_
    show Steps p.tables e below (T303.setTop (mkF m 12 #[.val (.int p1), .val (.int p2), .val (.int p3), .val (.int p4), .val (.int p5), .val (.int p6), .val (.int w1), .val (.int (own_pos p2)), .unset, .unset, .unset, .unset, .unset, .unset, .unset, .unset, .unset, .unset, .unset, .unset] [])) _
    rw [qw2] at k
    exact k
  refine OwnWp.step (U' := T303.setTop (mkF m 13 #[.val (.int p1), .val (.int p2), .val (.int p3), .val (.int p4), .val (.int p5), .val (.int p6), .val (.int w1), .val (.int w2), .unset, .unset, .unset, .unset, .unset, .unset, .unset, .unset, .unset, .unset, .unset, .unset] [(.int p3)])) (fun t k => ?_) ?_
  · show Steps p.tables e below (T303.setTop (mkF m 12 #[.val (.int p1), .val (.int p2), .val (.int p3), .val (.int p4), .val (.int p5), .val (.int p6), .val (.int w1), .val (.int w2), .unset, .unset, .unset, .unset, .unset, .unset, .unset, .unset, .unset, .unset, .unset, .unset] [])) _
    refine XS.iloadN X303.here hx rfl (hb hby at_12) rfl ?_
    show Steps p.tables e below (T303.setTop (mkF m 13 #[.val (.int p1), .val (.int p2), .val (.int p3), .val (.int p4), .val (.int p5), .val (.int p6), .val (.int w1), .val (.int w2), .unset, .unset, .unset, .unset, .unset, .unset, .unset, .unset, .unset, .unset, .unset, .unset] [(.int p3)])) _
    exact k
  show OwnWp p e below s _ _ _ (T303.setTop (mkF m 13 #[.val (.int p1), .val (.int p2), .val (.int p3), .val (.int p4), .val (.int p5), .val (.int p6), .val (.int w1), .val (.int w2), .unset, .unset, .unset, .unset, .unset, .unset, .unset, .unset, .unset, .unset, .unset, .unset] [(.int p3)]))
  obtain ⟨_, _, ⟨T304, L304, k304, n304⟩, -, X304, ⟨Lc304, hQ304, l304, y304, z304⟩, st304⟩ := Jvm.LawKit.callS X303 hx (y := (⟨"com/example/utu/utu/SlotNumbersToArrayPinLaw", "pos", "(I)I"⟩ : MethodName)) hown (mvT hZ (hw _ (List.mem_of_getElem? (i := 0) rfl))) (mvT hZ (hw _ (List.mem_of_getElem? (i := 1) rfl))) (mvT hZ (hw _ (List.mem_of_getElem? (i := 2) rfl))) (mvT hZ (hw _ (List.mem_of_getElem? (i := 3) rfl))) (by decide) (backOf (W := 0) (rm1 l Z a0 hw [] p3 h0 n0 Z0 ) hZ (hw _ (List.mem_of_getElem? (i := 3) rfl)) (hw _ (List.mem_of_getElem? (i := 2) rfl)) (by decide) (by decide)) (g := (mkF m 13 #[.val (.int p1), .val (.int p2), .val (.int p3), .val (.int p4), .val (.int p5), .val (.int p6), .val (.int w1), .val (.int w2), .unset, .unset, .unset, .unset, .unset, .unset, .unset, .unset, .unset, .unset, .unset, .unset] [(.int p3)])) rfl (by rw [hml]; rfl) (argsL := [(.int p3)]) (rest := []) (lenOf pd_1 rfl) rfl (by show 2 * 0 + _ ≤ _; exact Nat.le_of_eq rfl) (hb hby at_13) (fun _ _ => ⟨rfl, eh303, (by dsimp only [Pt.cells]; decide), (by dsimp only [Pt.slots]; decide)⟩)
  dsimp only [Pt.U, Pt.locs, Pt.cells, Pt.slots] at X304 l304 y304 z304 st304 hQ304
  subst l304 y304 z304
  obtain ⟨rfl, Nc304, hp304⟩ := hQ304
  have N304 := Fr.app N303 Nc304
  refine OwnWp.step st304 ?_
  have eh304 : T304.heap = h0 := hp304
  show OwnWp p e below s _ _ _ (T304.setTop (mkF m 16 #[.val (.int p1), .val (.int p2), .val (.int p3), .val (.int p4), .val (.int p5), .val (.int p6), .val (.int w1), .val (.int w2), .unset, .unset, .unset, .unset, .unset, .unset, .unset, .unset, .unset, .unset, .unset, .unset] [(.int (own_pos p3))]))
  obtain ⟨w3, qw3⟩ : ∃ z : Int32, z = (own_pos p3) := ⟨_, rfl⟩
  refine OwnWp.step (U' := T304.setTop (mkF m 18 #[.val (.int p1), .val (.int p2), .val (.int p3), .val (.int p4), .val (.int p5), .val (.int p6), .val (.int w1), .val (.int w2), .val (.int w3), .unset, .unset, .unset, .unset, .unset, .unset, .unset, .unset, .unset, .unset, .unset] [])) (fun t k => ?_) ?_
  · show Steps p.tables e below (T304.setTop (mkF m 16 #[.val (.int p1), .val (.int p2), .val (.int p3), .val (.int p4), .val (.int p5), .val (.int p6), .val (.int w1), .val (.int w2), .unset, .unset, .unset, .unset, .unset, .unset, .unset, .unset, .unset, .unset, .unset, .unset] [(.int (own_pos p3))])) _
    refine XS.istore X304.here hx rfl (hb hby at_16) rfl (l' := #[.val (.int p1), .val (.int p2), .val (.int p3), .val (.int p4), .val (.int p5), .val (.int p6), .val (.int w1), .val (.int w2), .val (.int (own_pos p3)), .unset, .unset, .unset, .unset, .unset, .unset, .unset, .unset, .unset, .unset, .unset]) rfl ?_
    show Steps p.tables e below (T304.setTop (mkF m 18 #[.val (.int p1), .val (.int p2), .val (.int p3), .val (.int p4), .val (.int p5), .val (.int p6), .val (.int w1), .val (.int w2), .val (.int (own_pos p3)), .unset, .unset, .unset, .unset, .unset, .unset, .unset, .unset, .unset, .unset, .unset] [])) _
    rw [qw3] at k
    exact k
  refine OwnWp.step (U' := T304.setTop (mkF m 19 #[.val (.int p1), .val (.int p2), .val (.int p3), .val (.int p4), .val (.int p5), .val (.int p6), .val (.int w1), .val (.int w2), .val (.int w3), .unset, .unset, .unset, .unset, .unset, .unset, .unset, .unset, .unset, .unset, .unset] [(.int p4)])) (fun t k => ?_) ?_
  · show Steps p.tables e below (T304.setTop (mkF m 18 #[.val (.int p1), .val (.int p2), .val (.int p3), .val (.int p4), .val (.int p5), .val (.int p6), .val (.int w1), .val (.int w2), .val (.int w3), .unset, .unset, .unset, .unset, .unset, .unset, .unset, .unset, .unset, .unset, .unset] [])) _
    refine XS.iloadN X304.here hx rfl (hb hby at_18) rfl ?_
    show Steps p.tables e below (T304.setTop (mkF m 19 #[.val (.int p1), .val (.int p2), .val (.int p3), .val (.int p4), .val (.int p5), .val (.int p6), .val (.int w1), .val (.int w2), .val (.int w3), .unset, .unset, .unset, .unset, .unset, .unset, .unset, .unset, .unset, .unset, .unset] [(.int p4)])) _
    exact k
  show OwnWp p e below s _ _ _ (T304.setTop (mkF m 19 #[.val (.int p1), .val (.int p2), .val (.int p3), .val (.int p4), .val (.int p5), .val (.int p6), .val (.int w1), .val (.int w2), .val (.int w3), .unset, .unset, .unset, .unset, .unset, .unset, .unset, .unset, .unset, .unset, .unset] [(.int p4)]))
  obtain ⟨_, _, ⟨T305, L305, k305, n305⟩, -, X305, ⟨Lc305, hQ305, l305, y305, z305⟩, st305⟩ := Jvm.LawKit.callS X304 hx (y := (⟨"com/example/utu/utu/SlotNumbersToArrayPinLaw", "pos", "(I)I"⟩ : MethodName)) hown (mvT hZ (hw _ (List.mem_of_getElem? (i := 0) rfl))) (mvT hZ (hw _ (List.mem_of_getElem? (i := 1) rfl))) (mvT hZ (hw _ (List.mem_of_getElem? (i := 2) rfl))) (mvT hZ (hw _ (List.mem_of_getElem? (i := 3) rfl))) (by decide) (backOf (W := 0) (rm1 l Z a0 hw [] p4 h0 n0 Z0 ) hZ (hw _ (List.mem_of_getElem? (i := 3) rfl)) (hw _ (List.mem_of_getElem? (i := 2) rfl)) (by decide) (by decide)) (g := (mkF m 19 #[.val (.int p1), .val (.int p2), .val (.int p3), .val (.int p4), .val (.int p5), .val (.int p6), .val (.int w1), .val (.int w2), .val (.int w3), .unset, .unset, .unset, .unset, .unset, .unset, .unset, .unset, .unset, .unset, .unset] [(.int p4)])) rfl (by rw [hml]; rfl) (argsL := [(.int p4)]) (rest := []) (lenOf pd_1 rfl) rfl (by show 2 * 0 + _ ≤ _; exact Nat.le_of_eq rfl) (hb hby at_19) (fun _ _ => ⟨rfl, eh304, (by dsimp only [Pt.cells]; decide), (by dsimp only [Pt.slots]; decide)⟩)
  dsimp only [Pt.U, Pt.locs, Pt.cells, Pt.slots] at X305 l305 y305 z305 st305 hQ305
  subst l305 y305 z305
  obtain ⟨rfl, Nc305, hp305⟩ := hQ305
  have N305 := Fr.app N304 Nc305
  refine OwnWp.step st305 ?_
  have eh305 : T305.heap = h0 := hp305
  show OwnWp p e below s _ _ _ (T305.setTop (mkF m 22 #[.val (.int p1), .val (.int p2), .val (.int p3), .val (.int p4), .val (.int p5), .val (.int p6), .val (.int w1), .val (.int w2), .val (.int w3), .unset, .unset, .unset, .unset, .unset, .unset, .unset, .unset, .unset, .unset, .unset] [(.int (own_pos p4))]))
  obtain ⟨w4, qw4⟩ : ∃ z : Int32, z = (own_pos p4) := ⟨_, rfl⟩
  refine OwnWp.step (U' := T305.setTop (mkF m 24 #[.val (.int p1), .val (.int p2), .val (.int p3), .val (.int p4), .val (.int p5), .val (.int p6), .val (.int w1), .val (.int w2), .val (.int w3), .val (.int w4), .unset, .unset, .unset, .unset, .unset, .unset, .unset, .unset, .unset, .unset] [])) (fun t k => ?_) ?_
  · show Steps p.tables e below (T305.setTop (mkF m 22 #[.val (.int p1), .val (.int p2), .val (.int p3), .val (.int p4), .val (.int p5), .val (.int p6), .val (.int w1), .val (.int w2), .val (.int w3), .unset, .unset, .unset, .unset, .unset, .unset, .unset, .unset, .unset, .unset, .unset] [(.int (own_pos p4))])) _
    refine XS.istore X305.here hx rfl (hb hby at_22) rfl (l' := #[.val (.int p1), .val (.int p2), .val (.int p3), .val (.int p4), .val (.int p5), .val (.int p6), .val (.int w1), .val (.int w2), .val (.int w3), .val (.int (own_pos p4)), .unset, .unset, .unset, .unset, .unset, .unset, .unset, .unset, .unset, .unset]) rfl ?_
    show Steps p.tables e below (T305.setTop (mkF m 24 #[.val (.int p1), .val (.int p2), .val (.int p3), .val (.int p4), .val (.int p5), .val (.int p6), .val (.int w1), .val (.int w2), .val (.int w3), .val (.int (own_pos p4)), .unset, .unset, .unset, .unset, .unset, .unset, .unset, .unset, .unset, .unset] [])) _
    rw [qw4] at k
    exact k
  refine OwnWp.step (U' := T305.setTop (mkF m 28 #[.val (.int p1), .val (.int p2), .val (.int p3), .val (.int p4), .val (.int p5), .val (.int p6), .val (.int w1), .val (.int w2), .val (.int w3), .val (.int w4), .unset, .unset, .unset, .unset, .unset, .unset, .unset, .unset, .unset, .unset] [(.int (p6 &&& (1 : Int32)))])) (fun t k => ?_) ?_
  · show Steps p.tables e below (T305.setTop (mkF m 24 #[.val (.int p1), .val (.int p2), .val (.int p3), .val (.int p4), .val (.int p5), .val (.int p6), .val (.int w1), .val (.int w2), .val (.int w3), .val (.int w4), .unset, .unset, .unset, .unset, .unset, .unset, .unset, .unset, .unset, .unset] [])) _
    refine XS.iload X305.here hx rfl (hb hby at_24) rfl ?_
    show Steps p.tables e below (T305.setTop (mkF m 26 #[.val (.int p1), .val (.int p2), .val (.int p3), .val (.int p4), .val (.int p5), .val (.int p6), .val (.int w1), .val (.int w2), .val (.int w3), .val (.int w4), .unset, .unset, .unset, .unset, .unset, .unset, .unset, .unset, .unset, .unset] [(.int p6)])) _
    refine XT.iconstV X305.here hx rfl (1 : Int32) (hb hby at_26) rfl ?_
    show Steps p.tables e below (T305.setTop (mkF m 27 #[.val (.int p1), .val (.int p2), .val (.int p3), .val (.int p4), .val (.int p5), .val (.int p6), .val (.int w1), .val (.int w2), .val (.int w3), .val (.int w4), .unset, .unset, .unset, .unset, .unset, .unset, .unset, .unset, .unset, .unset] [(.int (1 : Int32)), (.int p6)])) _
    refine XS.iand X305.here hx rfl (hb hby at_27) rfl ?_
    show Steps p.tables e below (T305.setTop (mkF m 28 #[.val (.int p1), .val (.int p2), .val (.int p3), .val (.int p4), .val (.int p5), .val (.int p6), .val (.int w1), .val (.int w2), .val (.int w3), .val (.int w4), .unset, .unset, .unset, .unset, .unset, .unset, .unset, .unset, .unset, .unset] [(.int (p6 &&& (1 : Int32)))])) _
    exact k
  obtain ⟨w5, qw5⟩ : ∃ z : Int32, z = (if (p6 &&& (1 : Int32)) = (0 : Int32) then (0 : Int32) else (1 : Int32)) := ⟨_, rfl⟩
  refine OwnWp.step (U' := T305.setTop (mkF m 36 #[.val (.int p1), .val (.int p2), .val (.int p3), .val (.int p4), .val (.int p5), .val (.int p6), .val (.int w1), .val (.int w2), .val (.int w3), .val (.int w4), .unset, .unset, .unset, .unset, .unset, .unset, .unset, .unset, .unset, .unset] [(.int w5)])) (fun t k => ?_) ?_
  · show Steps p.tables e below (T305.setTop (mkF m 28 #[.val (.int p1), .val (.int p2), .val (.int p3), .val (.int p4), .val (.int p5), .val (.int p6), .val (.int w1), .val (.int w2), .val (.int w3), .val (.int w4), .unset, .unset, .unset, .unset, .unset, .unset, .unset, .unset, .unset, .unset] [(.int (p6 &&& (1 : Int32)))])) _
    by_cases c28_306 : (p6 &&& (1 : Int32)) = (0 : Int32)
    · refine XS.ifYes X305.here hx rfl (pc0 := 28) (pc' := 35) rfl (hb hby at_28) rfl (XT.i0_eq_t c28_306) (by decide) (by decide) ?_
      show Steps p.tables e below (T305.setTop (mkF m 35 #[.val (.int p1), .val (.int p2), .val (.int p3), .val (.int p4), .val (.int p5), .val (.int p6), .val (.int w1), .val (.int w2), .val (.int w3), .val (.int w4), .unset, .unset, .unset, .unset, .unset, .unset, .unset, .unset, .unset, .unset] [])) _
      refine XT.iconstV X305.here hx rfl (0 : Int32) (hb hby at_35) rfl ?_
      show Steps p.tables e below (T305.setTop (mkF m 36 #[.val (.int p1), .val (.int p2), .val (.int p3), .val (.int p4), .val (.int p5), .val (.int p6), .val (.int w1), .val (.int w2), .val (.int w3), .val (.int w4), .unset, .unset, .unset, .unset, .unset, .unset, .unset, .unset, .unset, .unset] [(.int (0 : Int32))])) _
      rw [show w5 = (0 : Int32) from by rw [qw5, if_pos c28_306]] at k
      exact k
    · refine XS.ifNo X305.here hx rfl (hb hby at_28) rfl (XT.i0_eq_f c28_306) ?_
      show Steps p.tables e below (T305.setTop (mkF m 31 #[.val (.int p1), .val (.int p2), .val (.int p3), .val (.int p4), .val (.int p5), .val (.int p6), .val (.int w1), .val (.int w2), .val (.int w3), .val (.int w4), .unset, .unset, .unset, .unset, .unset, .unset, .unset, .unset, .unset, .unset] [])) _
      refine XT.iconstV X305.here hx rfl (1 : Int32) (hb hby at_31) rfl ?_
      show Steps p.tables e below (T305.setTop (mkF m 32 #[.val (.int p1), .val (.int p2), .val (.int p3), .val (.int p4), .val (.int p5), .val (.int p6), .val (.int w1), .val (.int w2), .val (.int w3), .val (.int w4), .unset, .unset, .unset, .unset, .unset, .unset, .unset, .unset, .unset, .unset] [(.int (1 : Int32))])) _
      refine XS.goto X305.here hx rfl (pc0 := 32) (pc' := 36) rfl (hb hby at_32) (by decide) (by decide) ?_
      show Steps p.tables e below (T305.setTop (mkF m 36 #[.val (.int p1), .val (.int p2), .val (.int p3), .val (.int p4), .val (.int p5), .val (.int p6), .val (.int w1), .val (.int w2), .val (.int w3), .val (.int w4), .unset, .unset, .unset, .unset, .unset, .unset, .unset, .unset, .unset, .unset] [(.int (1 : Int32))])) _
      rw [show w5 = (1 : Int32) from by rw [qw5, if_neg c28_306]] at k
      exact k
  refine OwnWp.step (U' := T305.setTop (mkF m 42 #[.val (.int p1), .val (.int p2), .val (.int p3), .val (.int p4), .val (.int p5), .val (.int p6), .val (.int w1), .val (.int w2), .val (.int w3), .val (.int w4), .val (.int w5), .unset, .unset, .unset, .unset, .unset, .unset, .unset, .unset, .unset] [(.int (p6 &&& (2 : Int32)))])) (fun t k => ?_) ?_
  · show Steps p.tables e below (T305.setTop (mkF m 36 #[.val (.int p1), .val (.int p2), .val (.int p3), .val (.int p4), .val (.int p5), .val (.int p6), .val (.int w1), .val (.int w2), .val (.int w3), .val (.int w4), .unset, .unset, .unset, .unset, .unset, .unset, .unset, .unset, .unset, .unset] [(.int w5)])) _
    refine XS.istore X305.here hx rfl (hb hby at_36) rfl (l' := #[.val (.int p1), .val (.int p2), .val (.int p3), .val (.int p4), .val (.int p5), .val (.int p6), .val (.int w1), .val (.int w2), .val (.int w3), .val (.int w4), .val (.int w5), .unset, .unset, .unset, .unset, .unset, .unset, .unset, .unset, .unset]) rfl ?_
    show Steps p.tables e below (T305.setTop (mkF m 38 #[.val (.int p1), .val (.int p2), .val (.int p3), .val (.int p4), .val (.int p5), .val (.int p6), .val (.int w1), .val (.int w2), .val (.int w3), .val (.int w4), .val (.int w5), .unset, .unset, .unset, .unset, .unset, .unset, .unset, .unset, .unset] [])) _
    refine XS.iload X305.here hx rfl (hb hby at_38) rfl ?_
    show Steps p.tables e below (T305.setTop (mkF m 40 #[.val (.int p1), .val (.int p2), .val (.int p3), .val (.int p4), .val (.int p5), .val (.int p6), .val (.int w1), .val (.int w2), .val (.int w3), .val (.int w4), .val (.int w5), .unset, .unset, .unset, .unset, .unset, .unset, .unset, .unset, .unset] [(.int p6)])) _
    refine XT.iconstV X305.here hx rfl (2 : Int32) (hb hby at_40) rfl ?_
    show Steps p.tables e below (T305.setTop (mkF m 41 #[.val (.int p1), .val (.int p2), .val (.int p3), .val (.int p4), .val (.int p5), .val (.int p6), .val (.int w1), .val (.int w2), .val (.int w3), .val (.int w4), .val (.int w5), .unset, .unset, .unset, .unset, .unset, .unset, .unset, .unset, .unset] [(.int (2 : Int32)), (.int p6)])) _
    refine XS.iand X305.here hx rfl (hb hby at_41) rfl ?_
    show Steps p.tables e below (T305.setTop (mkF m 42 #[.val (.int p1), .val (.int p2), .val (.int p3), .val (.int p4), .val (.int p5), .val (.int p6), .val (.int w1), .val (.int w2), .val (.int w3), .val (.int w4), .val (.int w5), .unset, .unset, .unset, .unset, .unset, .unset, .unset, .unset, .unset] [(.int (p6 &&& (2 : Int32)))])) _
    exact k
  obtain ⟨w6, qw6⟩ : ∃ z : Int32, z = (if (p6 &&& (2 : Int32)) = (0 : Int32) then (0 : Int32) else (1 : Int32)) := ⟨_, rfl⟩
  refine OwnWp.step (U' := T305.setTop (mkF m 50 #[.val (.int p1), .val (.int p2), .val (.int p3), .val (.int p4), .val (.int p5), .val (.int p6), .val (.int w1), .val (.int w2), .val (.int w3), .val (.int w4), .val (.int w5), .unset, .unset, .unset, .unset, .unset, .unset, .unset, .unset, .unset] [(.int w6)])) (fun t k => ?_) ?_
  · show Steps p.tables e below (T305.setTop (mkF m 42 #[.val (.int p1), .val (.int p2), .val (.int p3), .val (.int p4), .val (.int p5), .val (.int p6), .val (.int w1), .val (.int w2), .val (.int w3), .val (.int w4), .val (.int w5), .unset, .unset, .unset, .unset, .unset, .unset, .unset, .unset, .unset] [(.int (p6 &&& (2 : Int32)))])) _
    by_cases c42_307 : (p6 &&& (2 : Int32)) = (0 : Int32)
    · refine XS.ifYes X305.here hx rfl (pc0 := 42) (pc' := 49) rfl (hb hby at_42) rfl (XT.i0_eq_t c42_307) (by decide) (by decide) ?_
      show Steps p.tables e below (T305.setTop (mkF m 49 #[.val (.int p1), .val (.int p2), .val (.int p3), .val (.int p4), .val (.int p5), .val (.int p6), .val (.int w1), .val (.int w2), .val (.int w3), .val (.int w4), .val (.int w5), .unset, .unset, .unset, .unset, .unset, .unset, .unset, .unset, .unset] [])) _
      refine XT.iconstV X305.here hx rfl (0 : Int32) (hb hby at_49) rfl ?_
      show Steps p.tables e below (T305.setTop (mkF m 50 #[.val (.int p1), .val (.int p2), .val (.int p3), .val (.int p4), .val (.int p5), .val (.int p6), .val (.int w1), .val (.int w2), .val (.int w3), .val (.int w4), .val (.int w5), .unset, .unset, .unset, .unset, .unset, .unset, .unset, .unset, .unset] [(.int (0 : Int32))])) _
      rw [show w6 = (0 : Int32) from by rw [qw6, if_pos c42_307]] at k
      exact k
    · refine XS.ifNo X305.here hx rfl (hb hby at_42) rfl (XT.i0_eq_f c42_307) ?_
      show Steps p.tables e below (T305.setTop (mkF m 45 #[.val (.int p1), .val (.int p2), .val (.int p3), .val (.int p4), .val (.int p5), .val (.int p6), .val (.int w1), .val (.int w2), .val (.int w3), .val (.int w4), .val (.int w5), .unset, .unset, .unset, .unset, .unset, .unset, .unset, .unset, .unset] [])) _
      refine XT.iconstV X305.here hx rfl (1 : Int32) (hb hby at_45) rfl ?_
      show Steps p.tables e below (T305.setTop (mkF m 46 #[.val (.int p1), .val (.int p2), .val (.int p3), .val (.int p4), .val (.int p5), .val (.int p6), .val (.int w1), .val (.int w2), .val (.int w3), .val (.int w4), .val (.int w5), .unset, .unset, .unset, .unset, .unset, .unset, .unset, .unset, .unset] [(.int (1 : Int32))])) _
      refine XS.goto X305.here hx rfl (pc0 := 46) (pc' := 50) rfl (hb hby at_46) (by decide) (by decide) ?_
      show Steps p.tables e below (T305.setTop (mkF m 50 #[.val (.int p1), .val (.int p2), .val (.int p3), .val (.int p4), .val (.int p5), .val (.int p6), .val (.int w1), .val (.int w2), .val (.int w3), .val (.int w4), .val (.int w5), .unset, .unset, .unset, .unset, .unset, .unset, .unset, .unset, .unset] [(.int (1 : Int32))])) _
      rw [show w6 = (1 : Int32) from by rw [qw6, if_neg c42_307]] at k
      exact k
  obtain ⟨w7, qw7⟩ : ∃ z : Int32, z = ((XT.ushr p6 (2 : Int32)) &&& (7 : Int32)) := ⟨_, rfl⟩
  refine OwnWp.step (U' := T305.setTop (mkF m 61 #[.val (.int p1), .val (.int p2), .val (.int p3), .val (.int p4), .val (.int p5), .val (.int p6), .val (.int w1), .val (.int w2), .val (.int w3), .val (.int w4), .val (.int w5), .val (.int w6), .val (.int w7), .unset, .unset, .unset, .unset, .unset, .unset, .unset] [])) (fun t k => ?_) ?_
  · show Steps p.tables e below (T305.setTop (mkF m 50 #[.val (.int p1), .val (.int p2), .val (.int p3), .val (.int p4), .val (.int p5), .val (.int p6), .val (.int w1), .val (.int w2), .val (.int w3), .val (.int w4), .val (.int w5), .unset, .unset, .unset, .unset, .unset, .unset, .unset, .unset, .unset] [(.int w6)])) _
    refine XS.istore X305.here hx rfl (hb hby at_50) rfl (l' := #[.val (.int p1), .val (.int p2), .val (.int p3), .val (.int p4), .val (.int p5), .val (.int p6), .val (.int w1), .val (.int w2), .val (.int w3), .val (.int w4), .val (.int w5), .val (.int w6), .unset, .unset, .unset, .unset, .unset, .unset, .unset, .unset]) rfl ?_
    show Steps p.tables e below (T305.setTop (mkF m 52 #[.val (.int p1), .val (.int p2), .val (.int p3), .val (.int p4), .val (.int p5), .val (.int p6), .val (.int w1), .val (.int w2), .val (.int w3), .val (.int w4), .val (.int w5), .val (.int w6), .unset, .unset, .unset, .unset, .unset, .unset, .unset, .unset] [])) _
    refine XS.iload X305.here hx rfl (hb hby at_52) rfl ?_
    show Steps p.tables e below (T305.setTop (mkF m 54 #[.val (.int p1), .val (.int p2), .val (.int p3), .val (.int p4), .val (.int p5), .val (.int p6), .val (.int w1), .val (.int w2), .val (.int w3), .val (.int w4), .val (.int w5), .val (.int w6), .unset, .unset, .unset, .unset, .unset, .unset, .unset, .unset] [(.int p6)])) _
    refine XT.iconstV X305.here hx rfl (2 : Int32) (hb hby at_54) rfl ?_
    show Steps p.tables e below (T305.setTop (mkF m 55 #[.val (.int p1), .val (.int p2), .val (.int p3), .val (.int p4), .val (.int p5), .val (.int p6), .val (.int w1), .val (.int w2), .val (.int w3), .val (.int w4), .val (.int w5), .val (.int w6), .unset, .unset, .unset, .unset, .unset, .unset, .unset, .unset] [(.int (2 : Int32)), (.int p6)])) _
    refine XT.iushr X305.here hx rfl (hb hby at_55) rfl ?_
    show Steps p.tables e below (T305.setTop (mkF m 56 #[.val (.int p1), .val (.int p2), .val (.int p3), .val (.int p4), .val (.int p5), .val (.int p6), .val (.int w1), .val (.int w2), .val (.int w3), .val (.int w4), .val (.int w5), .val (.int w6), .unset, .unset, .unset, .unset, .unset, .unset, .unset, .unset] [(.int (XT.ushr p6 (2 : Int32)))])) _
    refine XT.bipushV X305.here hx rfl (7 : Int32) (hb hby at_56) rfl ?_
    show Steps p.tables e below (T305.setTop (mkF m 58 #[.val (.int p1), .val (.int p2), .val (.int p3), .val (.int p4), .val (.int p5), .val (.int p6), .val (.int w1), .val (.int w2), .val (.int w3), .val (.int w4), .val (.int w5), .val (.int w6), .unset, .unset, .unset, .unset, .unset, .unset, .unset, .unset] [(.int (7 : Int32)), (.int (XT.ushr p6 (2 : Int32)))])) _
    refine XS.iand X305.here hx rfl (hb hby at_58) rfl ?_
    show Steps p.tables e below (T305.setTop (mkF m 59 #[.val (.int p1), .val (.int p2), .val (.int p3), .val (.int p4), .val (.int p5), .val (.int p6), .val (.int w1), .val (.int w2), .val (.int w3), .val (.int w4), .val (.int w5), .val (.int w6), .unset, .unset, .unset, .unset, .unset, .unset, .unset, .unset] [(.int ((XT.ushr p6 (2 : Int32)) &&& (7 : Int32)))])) _
    refine XS.istore X305.here hx rfl (hb hby at_59) rfl (l' := #[.val (.int p1), .val (.int p2), .val (.int p3), .val (.int p4), .val (.int p5), .val (.int p6), .val (.int w1), .val (.int w2), .val (.int w3), .val (.int w4), .val (.int w5), .val (.int w6), .val (.int ((XT.ushr p6 (2 : Int32)) &&& (7 : Int32))), .unset, .unset, .unset, .unset, .unset, .unset, .unset]) rfl ?_
    show Steps p.tables e below (T305.setTop (mkF m 61 #[.val (.int p1), .val (.int p2), .val (.int p3), .val (.int p4), .val (.int p5), .val (.int p6), .val (.int w1), .val (.int w2), .val (.int w3), .val (.int w4), .val (.int w5), .val (.int w6), .val (.int ((XT.ushr p6 (2 : Int32)) &&& (7 : Int32))), .unset, .unset, .unset, .unset, .unset, .unset, .unset] [])) _
    rw [qw7] at k
    exact k
  refine OwnWp.step (U' := T305.setTop (mkF m 65 #[.val (.int p1), .val (.int p2), .val (.int p3), .val (.int p4), .val (.int p5), .val (.int p6), .val (.int w1), .val (.int w2), .val (.int w3), .val (.int w4), .val (.int w5), .val (.int w6), .val (.int w7), .unset, .unset, .unset, .unset, .unset, .unset, .unset] [(.int (6 : Int32)), (.int w7)])) (fun t k => ?_) ?_
  · show Steps p.tables e below (T305.setTop (mkF m 61 #[.val (.int p1), .val (.int p2), .val (.int p3), .val (.int p4), .val (.int p5), .val (.int p6), .val (.int w1), .val (.int w2), .val (.int w3), .val (.int w4), .val (.int w5), .val (.int w6), .val (.int w7), .unset, .unset, .unset, .unset, .unset, .unset, .unset] [])) _
    refine XS.iload X305.here hx rfl (hb hby at_61) rfl ?_
    show Steps p.tables e below (T305.setTop (mkF m 63 #[.val (.int p1), .val (.int p2), .val (.int p3), .val (.int p4), .val (.int p5), .val (.int p6), .val (.int w1), .val (.int w2), .val (.int w3), .val (.int w4), .val (.int w5), .val (.int w6), .val (.int w7), .unset, .unset, .unset, .unset, .unset, .unset, .unset] [(.int w7)])) _
    refine XT.bipushV X305.here hx rfl (6 : Int32) (hb hby at_63) rfl ?_
    show Steps p.tables e below (T305.setTop (mkF m 65 #[.val (.int p1), .val (.int p2), .val (.int p3), .val (.int p4), .val (.int p5), .val (.int p6), .val (.int w1), .val (.int w2), .val (.int w3), .val (.int w4), .val (.int w5), .val (.int w6), .val (.int w7), .unset, .unset, .unset, .unset, .unset, .unset, .unset] [(.int (6 : Int32)), (.int w7)])) _
    exact k
  obtain ⟨w8, qw8⟩ : ∃ z : Int32, z = (if w7 < (6 : Int32) then (1 : Int32) else (0 : Int32)) := ⟨_, rfl⟩
  refine OwnWp.step (U' := T305.setTop (mkF m 73 #[.val (.int p1), .val (.int p2), .val (.int p3), .val (.int p4), .val (.int p5), .val (.int p6), .val (.int w1), .val (.int w2), .val (.int w3), .val (.int w4), .val (.int w5), .val (.int w6), .val (.int w7), .unset, .unset, .unset, .unset, .unset, .unset, .unset] [(.int w8)])) (fun t k => ?_) ?_
  · show Steps p.tables e below (T305.setTop (mkF m 65 #[.val (.int p1), .val (.int p2), .val (.int p3), .val (.int p4), .val (.int p5), .val (.int p6), .val (.int w1), .val (.int w2), .val (.int w3), .val (.int w4), .val (.int w5), .val (.int w6), .val (.int w7), .unset, .unset, .unset, .unset, .unset, .unset, .unset] [(.int (6 : Int32)), (.int w7)])) _
    by_cases c65_308 : w7 < (6 : Int32)
    · refine XS.icmpNo X305.here hx rfl (hb hby at_65) rfl (XT.ii_ge_f c65_308) ?_
      show Steps p.tables e below (T305.setTop (mkF m 68 #[.val (.int p1), .val (.int p2), .val (.int p3), .val (.int p4), .val (.int p5), .val (.int p6), .val (.int w1), .val (.int w2), .val (.int w3), .val (.int w4), .val (.int w5), .val (.int w6), .val (.int w7), .unset, .unset, .unset, .unset, .unset, .unset, .unset] [])) _
      refine XT.iconstV X305.here hx rfl (1 : Int32) (hb hby at_68) rfl ?_
      show Steps p.tables e below (T305.setTop (mkF m 69 #[.val (.int p1), .val (.int p2), .val (.int p3), .val (.int p4), .val (.int p5), .val (.int p6), .val (.int w1), .val (.int w2), .val (.int w3), .val (.int w4), .val (.int w5), .val (.int w6), .val (.int w7), .unset, .unset, .unset, .unset, .unset, .unset, .unset] [(.int (1 : Int32))])) _
      refine XS.goto X305.here hx rfl (pc0 := 69) (pc' := 73) rfl (hb hby at_69) (by decide) (by decide) ?_
      show Steps p.tables e below (T305.setTop (mkF m 73 #[.val (.int p1), .val (.int p2), .val (.int p3), .val (.int p4), .val (.int p5), .val (.int p6), .val (.int w1), .val (.int w2), .val (.int w3), .val (.int w4), .val (.int w5), .val (.int w6), .val (.int w7), .unset, .unset, .unset, .unset, .unset, .unset, .unset] [(.int (1 : Int32))])) _
      rw [show w8 = (1 : Int32) from by rw [qw8, if_pos c65_308]] at k
      exact k
    · refine XS.icmpYes X305.here hx rfl (pc0 := 65) (pc' := 72) rfl (hb hby at_65) rfl (XT.ii_ge_t c65_308) (by decide) (by decide) ?_
      show Steps p.tables e below (T305.setTop (mkF m 72 #[.val (.int p1), .val (.int p2), .val (.int p3), .val (.int p4), .val (.int p5), .val (.int p6), .val (.int w1), .val (.int w2), .val (.int w3), .val (.int w4), .val (.int w5), .val (.int w6), .val (.int w7), .unset, .unset, .unset, .unset, .unset, .unset, .unset] [])) _
      refine XT.iconstV X305.here hx rfl (0 : Int32) (hb hby at_72) rfl ?_
      show Steps p.tables e below (T305.setTop (mkF m 73 #[.val (.int p1), .val (.int p2), .val (.int p3), .val (.int p4), .val (.int p5), .val (.int p6), .val (.int w1), .val (.int w2), .val (.int w3), .val (.int w4), .val (.int w5), .val (.int w6), .val (.int w7), .unset, .unset, .unset, .unset, .unset, .unset, .unset] [(.int (0 : Int32))])) _
      rw [show w8 = (0 : Int32) from by rw [qw8, if_neg c65_308]] at k
      exact k
  refine OwnWp.step (U' := T305.setTop (mkF m 77 #[.val (.int p1), .val (.int p2), .val (.int p3), .val (.int p4), .val (.int p5), .val (.int p6), .val (.int w1), .val (.int w2), .val (.int w3), .val (.int w4), .val (.int w5), .val (.int w6), .val (.int w7), .val (.int w8), .unset, .unset, .unset, .unset, .unset, .unset] [(.int w7)])) (fun t k => ?_) ?_
  · show Steps p.tables e below (T305.setTop (mkF m 73 #[.val (.int p1), .val (.int p2), .val (.int p3), .val (.int p4), .val (.int p5), .val (.int p6), .val (.int w1), .val (.int w2), .val (.int w3), .val (.int w4), .val (.int w5), .val (.int w6), .val (.int w7), .unset, .unset, .unset, .unset, .unset, .unset, .unset] [(.int w8)])) _
    refine XS.istore X305.here hx rfl (hb hby at_73) rfl (l' := #[.val (.int p1), .val (.int p2), .val (.int p3), .val (.int p4), .val (.int p5), .val (.int p6), .val (.int w1), .val (.int w2), .val (.int w3), .val (.int w4), .val (.int w5), .val (.int w6), .val (.int w7), .val (.int w8), .unset, .unset, .unset, .unset, .unset, .unset]) rfl ?_
    show Steps p.tables e below (T305.setTop (mkF m 75 #[.val (.int p1), .val (.int p2), .val (.int p3), .val (.int p4), .val (.int p5), .val (.int p6), .val (.int w1), .val (.int w2), .val (.int w3), .val (.int w4), .val (.int w5), .val (.int w6), .val (.int w7), .val (.int w8), .unset, .unset, .unset, .unset, .unset, .unset] [])) _
    refine XS.iload X305.here hx rfl (hb hby at_75) rfl ?_
    show Steps p.tables e below (T305.setTop (mkF m 77 #[.val (.int p1), .val (.int p2), .val (.int p3), .val (.int p4), .val (.int p5), .val (.int p6), .val (.int w1), .val (.int w2), .val (.int w3), .val (.int w4), .val (.int w5), .val (.int w6), .val (.int w7), .val (.int w8), .unset, .unset, .unset, .unset, .unset, .unset] [(.int w7)])) _
    exact k
  have zw1 := own_posne _ w1 qw1
  have zw2 := own_posne _ w2 qw2
  have zw3 := own_posne _ w3 qw3
  have zw4 := own_posne _ w4 qw4
  have bw5 := own_bit01 _ _ w5 qw5
  have bw6 := own_bit01 _ _ w6 qw6
  have J : ∀ (T309 : State) (h309 : Heap) (L309 : List Loc) (rm : Int32) (X309 : Stand p l e room_1 s m #[(.int p1), (.int p2), (.int p3), (.int p4), (.int p5), (.int p6)] below meth c T309 L309 0 0) (e309 : T309.heap = h309) (N309 : Fr n0 L309) (Z309 : n0 ≤ h309.size)  (hrm : rm ≠ 0), OwnWp p e below s room_1.cells room_1.slots (Q0 Z p1 p2 p3 p4 p5 p6  h0 n0) (T309.setTop (mkF m 123 #[.val (.int p1), .val (.int p2), .val (.int p3), .val (.int p4), .val (.int p5), .val (.int p6), .val (.int w1), .val (.int w2), .val (.int w3), .val (.int w4), .val (.int w5), .val (.int w6), .val (.int w7), .val (.int w8), .unset, .unset, .unset, .unset, .unset, .unset] [(.int rm)])) := by
    intro T309 h309 L309 rm X309 e309 N309 Z309  hrm
    refine OwnWp.step (U' := T309.setTop (mkF m 126 #[.val (.int p1), .val (.int p2), .val (.int p3), .val (.int p4), .val (.int p5), .val (.int p6), .val (.int w1), .val (.int w2), .val (.int w3), .val (.int w4), .val (.int w5), .val (.int w6), .val (.int w7), .val (.int w8), .val (.int rm), .unset, .unset, .unset, .unset, .unset] [(.int (4 : Int32))])) (fun t k => ?_) ?_
    · show Steps p.tables e below (T309.setTop (mkF m 123 #[.val (.int p1), .val (.int p2), .val (.int p3), .val (.int p4), .val (.int p5), .val (.int p6), .val (.int w1), .val (.int w2), .val (.int w3), .val (.int w4), .val (.int w5), .val (.int w6), .val (.int w7), .val (.int w8), .unset, .unset, .unset, .unset, .unset, .unset] [(.int rm)])) _
      refine XS.istore X309.here hx rfl (hb hby at_123) rfl (l' := #[.val (.int p1), .val (.int p2), .val (.int p3), .val (.int p4), .val (.int p5), .val (.int p6), .val (.int w1), .val (.int w2), .val (.int w3), .val (.int w4), .val (.int w5), .val (.int w6), .val (.int w7), .val (.int w8), .val (.int rm), .unset, .unset, .unset, .unset, .unset]) rfl ?_
      show Steps p.tables e below (T309.setTop (mkF m 125 #[.val (.int p1), .val (.int p2), .val (.int p3), .val (.int p4), .val (.int p5), .val (.int p6), .val (.int w1), .val (.int w2), .val (.int w3), .val (.int w4), .val (.int w5), .val (.int w6), .val (.int w7), .val (.int w8), .val (.int rm), .unset, .unset, .unset, .unset, .unset] [])) _
      refine XT.iconstV X309.here hx rfl (4 : Int32) (hb hby at_125) rfl ?_
      show Steps p.tables e below (T309.setTop (mkF m 126 #[.val (.int p1), .val (.int p2), .val (.int p3), .val (.int p4), .val (.int p5), .val (.int p6), .val (.int w1), .val (.int w2), .val (.int w3), .val (.int w4), .val (.int w5), .val (.int w6), .val (.int w7), .val (.int w8), .val (.int rm), .unset, .unset, .unset, .unset, .unset] [(.int (4 : Int32))])) _
      exact k
    obtain ⟨T310, h310, cA310, X310, e310, E310, Ar310, st310⟩ := newP X309 hx hZ (aty := .int) (hw _ (List.mem_of_getElem? (i := 5) rfl)) e309 (g := (mkF m 126 #[.val (.int p1), .val (.int p2), .val (.int p3), .val (.int p4), .val (.int p5), .val (.int p6), .val (.int w1), .val (.int w2), .val (.int w3), .val (.int w4), .val (.int w5), .val (.int w6), .val (.int w7), .val (.int w8), .val (.int rm), .unset, .unset, .unset, .unset, .unset] [(.int (4 : Int32))])) rfl (hb hby at_126) rfl (by decide) (cap := 4) (by decide) (by decide) (by decide) (by decide)
    obtain ⟨ad310, ga310⟩ : ∃ z, z = h309.size := ⟨_, rfl⟩
    rw [← ga310] at Ar310 st310
    refine OwnWp.step st310 ?_
    have Z310 : n0 ≤ h310.size := Nat.le_trans Z309 E310.1
    have b310 : n0 ≤ ad310 := Nat.le_trans Z309 (Nat.le_of_eq ga310.symm)
    have F311 : OwnA Z h310 ad310 .int (4 : Int32) (fun _ => (.int (0 : Int32))) := OwnA.new Ar310 (by decide)
    show OwnWp p e below s _ _ _ (T310.setTop (mkF m 128 #[.val (.int p1), .val (.int p2), .val (.int p3), .val (.int p4), .val (.int p5), .val (.int p6), .val (.int w1), .val (.int w2), .val (.int w3), .val (.int w4), .val (.int w5), .val (.int w6), .val (.int w7), .val (.int w8), .val (.int rm), .unset, .unset, .unset, .unset, .unset] [(.ref ad310)]))
    refine OwnWp.step (U' := T310.setTop (mkF m 132 #[.val (.int p1), .val (.int p2), .val (.int p3), .val (.int p4), .val (.int p5), .val (.int p6), .val (.int w1), .val (.int w2), .val (.int w3), .val (.int w4), .val (.int w5), .val (.int w6), .val (.int w7), .val (.int w8), .val (.int rm), .unset, .unset, .unset, .unset, .unset] [(.int w1), (.int (0 : Int32)), (.ref ad310), (.ref ad310)])) (fun t k => ?_) ?_
    · show Steps p.tables e below (T310.setTop (mkF m 128 #[.val (.int p1), .val (.int p2), .val (.int p3), .val (.int p4), .val (.int p5), .val (.int p6), .val (.int w1), .val (.int w2), .val (.int w3), .val (.int w4), .val (.int w5), .val (.int w6), .val (.int w7), .val (.int w8), .val (.int rm), .unset, .unset, .unset, .unset, .unset] [(.ref ad310)])) _
      refine XS.dup X310.here hx rfl (hb hby at_128) rfl rfl ?_
      show Steps p.tables e below (T310.setTop (mkF m 129 #[.val (.int p1), .val (.int p2), .val (.int p3), .val (.int p4), .val (.int p5), .val (.int p6), .val (.int w1), .val (.int w2), .val (.int w3), .val (.int w4), .val (.int w5), .val (.int w6), .val (.int w7), .val (.int w8), .val (.int rm), .unset, .unset, .unset, .unset, .unset] [(.ref ad310), (.ref ad310)])) _
      refine XT.iconstV X310.here hx rfl (0 : Int32) (hb hby at_129) rfl ?_
      show Steps p.tables e below (T310.setTop (mkF m 130 #[.val (.int p1), .val (.int p2), .val (.int p3), .val (.int p4), .val (.int p5), .val (.int p6), .val (.int w1), .val (.int w2), .val (.int w3), .val (.int w4), .val (.int w5), .val (.int w6), .val (.int w7), .val (.int w8), .val (.int rm), .unset, .unset, .unset, .unset, .unset] [(.int (0 : Int32)), (.ref ad310), (.ref ad310)])) _
      refine XS.iload X310.here hx rfl (hb hby at_130) rfl ?_
      show Steps p.tables e below (T310.setTop (mkF m 132 #[.val (.int p1), .val (.int p2), .val (.int p3), .val (.int p4), .val (.int p5), .val (.int p6), .val (.int w1), .val (.int w2), .val (.int w3), .val (.int w4), .val (.int w5), .val (.int w6), .val (.int w7), .val (.int w8), .val (.int rm), .unset, .unset, .unset, .unset, .unset] [(.int w1), (.int (0 : Int32)), (.ref ad310), (.ref ad310)])) _
      exact k
    obtain ⟨T312, h312, L312, X312, e312, N312, K312, F312, st312⟩ := OwnA.stI X310 hx hZ e310 N309 b310 F311 (by decide) (by decide) (g := (mkF m 132 #[.val (.int p1), .val (.int p2), .val (.int p3), .val (.int p4), .val (.int p5), .val (.int p6), .val (.int w1), .val (.int w2), .val (.int w3), .val (.int w4), .val (.int w5), .val (.int w6), .val (.int w7), .val (.int w8), .val (.int rm), .unset, .unset, .unset, .unset, .unset] [(.int w1), (.int (0 : Int32)), (.ref ad310), (.ref ad310)])) rfl rfl (hb hby at_132)
    refine OwnWp.step st312 ?_
    have Z312 : n0 ≤ h312.size := Nat.le_trans Z310 K312.1
    have F313 : OwnA Z h312 ad310 .int (4 : Int32) (fun zi => .int ((ownUpd (fun _ => (0 : Int32)) (0 : Int32).toInt w1) zi)) := F312.congr (fun zi _ _ => by exact ownUpd_int (fun _ => (0 : Int32)) _ _ zi)
    show OwnWp p e below s _ _ _ (T312.setTop (mkF m 133 #[.val (.int p1), .val (.int p2), .val (.int p3), .val (.int p4), .val (.int p5), .val (.int p6), .val (.int w1), .val (.int w2), .val (.int w3), .val (.int w4), .val (.int w5), .val (.int w6), .val (.int w7), .val (.int w8), .val (.int rm), .unset, .unset, .unset, .unset, .unset] [(.ref ad310)]))
    refine OwnWp.step (U' := T312.setTop (mkF m 137 #[.val (.int p1), .val (.int p2), .val (.int p3), .val (.int p4), .val (.int p5), .val (.int p6), .val (.int w1), .val (.int w2), .val (.int w3), .val (.int w4), .val (.int w5), .val (.int w6), .val (.int w7), .val (.int w8), .val (.int rm), .unset, .unset, .unset, .unset, .unset] [(.int w2), (.int (1 : Int32)), (.ref ad310), (.ref ad310)])) (fun t k => ?_) ?_
    · show Steps p.tables e below (T312.setTop (mkF m 133 #[.val (.int p1), .val (.int p2), .val (.int p3), .val (.int p4), .val (.int p5), .val (.int p6), .val (.int w1), .val (.int w2), .val (.int w3), .val (.int w4), .val (.int w5), .val (.int w6), .val (.int w7), .val (.int w8), .val (.int rm), .unset, .unset, .unset, .unset, .unset] [(.ref ad310)])) _
      refine XS.dup X312.here hx rfl (hb hby at_133) rfl rfl ?_
      show Steps p.tables e below (T312.setTop (mkF m 134 #[.val (.int p1), .val (.int p2), .val (.int p3), .val (.int p4), .val (.int p5), .val (.int p6), .val (.int w1), .val (.int w2), .val (.int w3), .val (.int w4), .val (.int w5), .val (.int w6), .val (.int w7), .val (.int w8), .val (.int rm), .unset, .unset, .unset, .unset, .unset] [(.ref ad310), (.ref ad310)])) _
      refine XT.iconstV X312.here hx rfl (1 : Int32) (hb hby at_134) rfl ?_
      show Steps p.tables e below (T312.setTop (mkF m 135 #[.val (.int p1), .val (.int p2), .val (.int p3), .val (.int p4), .val (.int p5), .val (.int p6), .val (.int w1), .val (.int w2), .val (.int w3), .val (.int w4), .val (.int w5), .val (.int w6), .val (.int w7), .val (.int w8), .val (.int rm), .unset, .unset, .unset, .unset, .unset] [(.int (1 : Int32)), (.ref ad310), (.ref ad310)])) _
      refine XS.iload X312.here hx rfl (hb hby at_135) rfl ?_
      show Steps p.tables e below (T312.setTop (mkF m 137 #[.val (.int p1), .val (.int p2), .val (.int p3), .val (.int p4), .val (.int p5), .val (.int p6), .val (.int w1), .val (.int w2), .val (.int w3), .val (.int w4), .val (.int w5), .val (.int w6), .val (.int w7), .val (.int w8), .val (.int rm), .unset, .unset, .unset, .unset, .unset] [(.int w2), (.int (1 : Int32)), (.ref ad310), (.ref ad310)])) _
      exact k
    obtain ⟨T314, h314, L314, X314, e314, N314, K314, F314, st314⟩ := OwnA.stI X312 hx hZ e312 N312 b310 F313 (by decide) (by decide) (g := (mkF m 137 #[.val (.int p1), .val (.int p2), .val (.int p3), .val (.int p4), .val (.int p5), .val (.int p6), .val (.int w1), .val (.int w2), .val (.int w3), .val (.int w4), .val (.int w5), .val (.int w6), .val (.int w7), .val (.int w8), .val (.int rm), .unset, .unset, .unset, .unset, .unset] [(.int w2), (.int (1 : Int32)), (.ref ad310), (.ref ad310)])) rfl rfl (hb hby at_137)
    refine OwnWp.step st314 ?_
    have Z314 : n0 ≤ h314.size := Nat.le_trans Z312 K314.1
    have F315 : OwnA Z h314 ad310 .int (4 : Int32) (fun zi => .int ((ownUpd (ownUpd (fun _ => (0 : Int32)) (0 : Int32).toInt w1) (1 : Int32).toInt w2) zi)) := F314.congr (fun zi _ _ => by exact ownUpd_int (ownUpd (fun _ => (0 : Int32)) (0 : Int32).toInt w1) _ _ zi)
    show OwnWp p e below s _ _ _ (T314.setTop (mkF m 138 #[.val (.int p1), .val (.int p2), .val (.int p3), .val (.int p4), .val (.int p5), .val (.int p6), .val (.int w1), .val (.int w2), .val (.int w3), .val (.int w4), .val (.int w5), .val (.int w6), .val (.int w7), .val (.int w8), .val (.int rm), .unset, .unset, .unset, .unset, .unset] [(.ref ad310)]))
    refine OwnWp.step (U' := T314.setTop (mkF m 142 #[.val (.int p1), .val (.int p2), .val (.int p3), .val (.int p4), .val (.int p5), .val (.int p6), .val (.int w1), .val (.int w2), .val (.int w3), .val (.int w4), .val (.int w5), .val (.int w6), .val (.int w7), .val (.int w8), .val (.int rm), .unset, .unset, .unset, .unset, .unset] [(.int w3), (.int (2 : Int32)), (.ref ad310), (.ref ad310)])) (fun t k => ?_) ?_
    · show Steps p.tables e below (T314.setTop (mkF m 138 #[.val (.int p1), .val (.int p2), .val (.int p3), .val (.int p4), .val (.int p5), .val (.int p6), .val (.int w1), .val (.int w2), .val (.int w3), .val (.int w4), .val (.int w5), .val (.int w6), .val (.int w7), .val (.int w8), .val (.int rm), .unset, .unset, .unset, .unset, .unset] [(.ref ad310)])) _
      refine XS.dup X314.here hx rfl (hb hby at_138) rfl rfl ?_
      show Steps p.tables e below (T314.setTop (mkF m 139 #[.val (.int p1), .val (.int p2), .val (.int p3), .val (.int p4), .val (.int p5), .val (.int p6), .val (.int w1), .val (.int w2), .val (.int w3), .val (.int w4), .val (.int w5), .val (.int w6), .val (.int w7), .val (.int w8), .val (.int rm), .unset, .unset, .unset, .unset, .unset] [(.ref ad310), (.ref ad310)])) _
      refine XT.iconstV X314.here hx rfl (2 : Int32) (hb hby at_139) rfl ?_
      show Steps p.tables e below (T314.setTop (mkF m 140 #[.val (.int p1), .val (.int p2), .val (.int p3), .val (.int p4), .val (.int p5), .val (.int p6), .val (.int w1), .val (.int w2), .val (.int w3), .val (.int w4), .val (.int w5), .val (.int w6), .val (.int w7), .val (.int w8), .val (.int rm), .unset, .unset, .unset, .unset, .unset] [(.int (2 : Int32)), (.ref ad310), (.ref ad310)])) _
      refine XS.iload X314.here hx rfl (hb hby at_140) rfl ?_
      show Steps p.tables e below (T314.setTop (mkF m 142 #[.val (.int p1), .val (.int p2), .val (.int p3), .val (.int p4), .val (.int p5), .val (.int p6), .val (.int w1), .val (.int w2), .val (.int w3), .val (.int w4), .val (.int w5), .val (.int w6), .val (.int w7), .val (.int w8), .val (.int rm), .unset, .unset, .unset, .unset, .unset] [(.int w3), (.int (2 : Int32)), (.ref ad310), (.ref ad310)])) _
      exact k
    obtain ⟨T316, h316, L316, X316, e316, N316, K316, F316, st316⟩ := OwnA.stI X314 hx hZ e314 N314 b310 F315 (by decide) (by decide) (g := (mkF m 142 #[.val (.int p1), .val (.int p2), .val (.int p3), .val (.int p4), .val (.int p5), .val (.int p6), .val (.int w1), .val (.int w2), .val (.int w3), .val (.int w4), .val (.int w5), .val (.int w6), .val (.int w7), .val (.int w8), .val (.int rm), .unset, .unset, .unset, .unset, .unset] [(.int w3), (.int (2 : Int32)), (.ref ad310), (.ref ad310)])) rfl rfl (hb hby at_142)
    refine OwnWp.step st316 ?_
    have Z316 : n0 ≤ h316.size := Nat.le_trans Z314 K316.1
    have F317 : OwnA Z h316 ad310 .int (4 : Int32) (fun zi => .int ((ownUpd (ownUpd (ownUpd (fun _ => (0 : Int32)) (0 : Int32).toInt w1) (1 : Int32).toInt w2) (2 : Int32).toInt w3) zi)) := F316.congr (fun zi _ _ => by exact ownUpd_int (ownUpd (ownUpd (fun _ => (0 : Int32)) (0 : Int32).toInt w1) (1 : Int32).toInt w2) _ _ zi)
    show OwnWp p e below s _ _ _ (T316.setTop (mkF m 143 #[.val (.int p1), .val (.int p2), .val (.int p3), .val (.int p4), .val (.int p5), .val (.int p6), .val (.int w1), .val (.int w2), .val (.int w3), .val (.int w4), .val (.int w5), .val (.int w6), .val (.int w7), .val (.int w8), .val (.int rm), .unset, .unset, .unset, .unset, .unset] [(.ref ad310)]))
    refine OwnWp.step (U' := T316.setTop (mkF m 147 #[.val (.int p1), .val (.int p2), .val (.int p3), .val (.int p4), .val (.int p5), .val (.int p6), .val (.int w1), .val (.int w2), .val (.int w3), .val (.int w4), .val (.int w5), .val (.int w6), .val (.int w7), .val (.int w8), .val (.int rm), .unset, .unset, .unset, .unset, .unset] [(.int w4), (.int (3 : Int32)), (.ref ad310), (.ref ad310)])) (fun t k => ?_) ?_
    · show Steps p.tables e below (T316.setTop (mkF m 143 #[.val (.int p1), .val (.int p2), .val (.int p3), .val (.int p4), .val (.int p5), .val (.int p6), .val (.int w1), .val (.int w2), .val (.int w3), .val (.int w4), .val (.int w5), .val (.int w6), .val (.int w7), .val (.int w8), .val (.int rm), .unset, .unset, .unset, .unset, .unset] [(.ref ad310)])) _
      refine XS.dup X316.here hx rfl (hb hby at_143) rfl rfl ?_
      show Steps p.tables e below (T316.setTop (mkF m 144 #[.val (.int p1), .val (.int p2), .val (.int p3), .val (.int p4), .val (.int p5), .val (.int p6), .val (.int w1), .val (.int w2), .val (.int w3), .val (.int w4), .val (.int w5), .val (.int w6), .val (.int w7), .val (.int w8), .val (.int rm), .unset, .unset, .unset, .unset, .unset] [(.ref ad310), (.ref ad310)])) _
      refine XT.iconstV X316.here hx rfl (3 : Int32) (hb hby at_144) rfl ?_
      show Steps p.tables e below (T316.setTop (mkF m 145 #[.val (.int p1), .val (.int p2), .val (.int p3), .val (.int p4), .val (.int p5), .val (.int p6), .val (.int w1), .val (.int w2), .val (.int w3), .val (.int w4), .val (.int w5), .val (.int w6), .val (.int w7), .val (.int w8), .val (.int rm), .unset, .unset, .unset, .unset, .unset] [(.int (3 : Int32)), (.ref ad310), (.ref ad310)])) _
      refine XS.iload X316.here hx rfl (hb hby at_145) rfl ?_
      show Steps p.tables e below (T316.setTop (mkF m 147 #[.val (.int p1), .val (.int p2), .val (.int p3), .val (.int p4), .val (.int p5), .val (.int p6), .val (.int w1), .val (.int w2), .val (.int w3), .val (.int w4), .val (.int w5), .val (.int w6), .val (.int w7), .val (.int w8), .val (.int rm), .unset, .unset, .unset, .unset, .unset] [(.int w4), (.int (3 : Int32)), (.ref ad310), (.ref ad310)])) _
      exact k
    obtain ⟨T318, h318, L318, X318, e318, N318, K318, F318, st318⟩ := OwnA.stI X316 hx hZ e316 N316 b310 F317 (by decide) (by decide) (g := (mkF m 147 #[.val (.int p1), .val (.int p2), .val (.int p3), .val (.int p4), .val (.int p5), .val (.int p6), .val (.int w1), .val (.int w2), .val (.int w3), .val (.int w4), .val (.int w5), .val (.int w6), .val (.int w7), .val (.int w8), .val (.int rm), .unset, .unset, .unset, .unset, .unset] [(.int w4), (.int (3 : Int32)), (.ref ad310), (.ref ad310)])) rfl rfl (hb hby at_147)
    refine OwnWp.step st318 ?_
    have Z318 : n0 ≤ h318.size := Nat.le_trans Z316 K318.1
    have F319 : OwnA Z h318 ad310 .int (4 : Int32) (fun zi => .int ((ownUpd (ownUpd (ownUpd (ownUpd (fun _ => (0 : Int32)) (0 : Int32).toInt w1) (1 : Int32).toInt w2) (2 : Int32).toInt w3) (3 : Int32).toInt w4) zi)) := F318.congr (fun zi _ _ => by exact ownUpd_int (ownUpd (ownUpd (ownUpd (fun _ => (0 : Int32)) (0 : Int32).toInt w1) (1 : Int32).toInt w2) (2 : Int32).toInt w3) _ _ zi)
    show OwnWp p e below s _ _ _ (T318.setTop (mkF m 148 #[.val (.int p1), .val (.int p2), .val (.int p3), .val (.int p4), .val (.int p5), .val (.int p6), .val (.int w1), .val (.int w2), .val (.int w3), .val (.int w4), .val (.int w5), .val (.int w6), .val (.int w7), .val (.int w8), .val (.int rm), .unset, .unset, .unset, .unset, .unset] [(.ref ad310)]))
    have FE : OwnA Z h318 ad310 .int (4 : Int32) (fun i => .int ((own_ex w1 w2 w3 w4) i)) := OwnA.congr F319 (own_fillE w1 w2 w3 w4)
    refine OwnWp.step (U' := T318.setTop (mkF m 151 #[.val (.int p1), .val (.int p2), .val (.int p3), .val (.int p4), .val (.int p5), .val (.int p6), .val (.int w1), .val (.int w2), .val (.int w3), .val (.int w4), .val (.int w5), .val (.int w6), .val (.int w7), .val (.int w8), .val (.int rm), .val (.ref ad310), .unset, .unset, .unset, .unset] [(.int (4 : Int32))])) (fun t k => ?_) ?_
    · show Steps p.tables e below (T318.setTop (mkF m 148 #[.val (.int p1), .val (.int p2), .val (.int p3), .val (.int p4), .val (.int p5), .val (.int p6), .val (.int w1), .val (.int w2), .val (.int w3), .val (.int w4), .val (.int w5), .val (.int w6), .val (.int w7), .val (.int w8), .val (.int rm), .unset, .unset, .unset, .unset, .unset] [(.ref ad310)])) _
      refine XS.astore X318.here hx rfl (hb hby at_148) rfl rfl (l' := #[.val (.int p1), .val (.int p2), .val (.int p3), .val (.int p4), .val (.int p5), .val (.int p6), .val (.int w1), .val (.int w2), .val (.int w3), .val (.int w4), .val (.int w5), .val (.int w6), .val (.int w7), .val (.int w8), .val (.int rm), .val (.ref ad310), .unset, .unset, .unset, .unset]) rfl ?_
      show Steps p.tables e below (T318.setTop (mkF m 150 #[.val (.int p1), .val (.int p2), .val (.int p3), .val (.int p4), .val (.int p5), .val (.int p6), .val (.int w1), .val (.int w2), .val (.int w3), .val (.int w4), .val (.int w5), .val (.int w6), .val (.int w7), .val (.int w8), .val (.int rm), .val (.ref ad310), .unset, .unset, .unset, .unset] [])) _
      refine XT.iconstV X318.here hx rfl (4 : Int32) (hb hby at_150) rfl ?_
      show Steps p.tables e below (T318.setTop (mkF m 151 #[.val (.int p1), .val (.int p2), .val (.int p3), .val (.int p4), .val (.int p5), .val (.int p6), .val (.int w1), .val (.int w2), .val (.int w3), .val (.int w4), .val (.int w5), .val (.int w6), .val (.int w7), .val (.int w8), .val (.int rm), .val (.ref ad310), .unset, .unset, .unset, .unset] [(.int (4 : Int32))])) _
      exact k
    obtain ⟨T320, h320, cA320, X320, e320, E320, Ar320, st320⟩ := newP X318 hx hZ (aty := .boolean) (hw _ (List.mem_of_getElem? (i := 6) rfl)) e318 (g := (mkF m 151 #[.val (.int p1), .val (.int p2), .val (.int p3), .val (.int p4), .val (.int p5), .val (.int p6), .val (.int w1), .val (.int w2), .val (.int w3), .val (.int w4), .val (.int w5), .val (.int w6), .val (.int w7), .val (.int w8), .val (.int rm), .val (.ref ad310), .unset, .unset, .unset, .unset] [(.int (4 : Int32))])) rfl (hb hby at_151) rfl (by decide) (cap := 4) (by decide) (by decide) (by decide) (by decide)
    obtain ⟨ad320, ga320⟩ : ∃ z, z = h318.size := ⟨_, rfl⟩
    rw [← ga320] at Ar320 st320
    refine OwnWp.step st320 ?_
    have ne320_321 : ad310 ≠ ad320 := Nat.ne_of_lt (by rw [ga320]; exact FE.lt)
    have Z320 : n0 ≤ h320.size := Nat.le_trans Z318 E320.1
    have b320 : n0 ≤ ad320 := Nat.le_trans Z318 (Nat.le_of_eq ga320.symm)
    have f322 := OwnA.ext FE E320
    have F323 : OwnA Z h320 ad320 .boolean (4 : Int32) (fun _ => (.int (0 : Int32))) := OwnA.new Ar320 (by decide)
    show OwnWp p e below s _ _ _ (T320.setTop (mkF m 153 #[.val (.int p1), .val (.int p2), .val (.int p3), .val (.int p4), .val (.int p5), .val (.int p6), .val (.int w1), .val (.int w2), .val (.int w3), .val (.int w4), .val (.int w5), .val (.int w6), .val (.int w7), .val (.int w8), .val (.int rm), .val (.ref ad310), .unset, .unset, .unset, .unset] [(.ref ad320)]))
    refine OwnWp.step (U' := T320.setTop (mkF m 156 #[.val (.int p1), .val (.int p2), .val (.int p3), .val (.int p4), .val (.int p5), .val (.int p6), .val (.int w1), .val (.int w2), .val (.int w3), .val (.int w4), .val (.int w5), .val (.int w6), .val (.int w7), .val (.int w8), .val (.int rm), .val (.ref ad310), .unset, .unset, .unset, .unset] [(.int (1 : Int32)), (.int (0 : Int32)), (.ref ad320), (.ref ad320)])) (fun t k => ?_) ?_
    · show Steps p.tables e below (T320.setTop (mkF m 153 #[.val (.int p1), .val (.int p2), .val (.int p3), .val (.int p4), .val (.int p5), .val (.int p6), .val (.int w1), .val (.int w2), .val (.int w3), .val (.int w4), .val (.int w5), .val (.int w6), .val (.int w7), .val (.int w8), .val (.int rm), .val (.ref ad310), .unset, .unset, .unset, .unset] [(.ref ad320)])) _
      refine XS.dup X320.here hx rfl (hb hby at_153) rfl rfl ?_
      show Steps p.tables e below (T320.setTop (mkF m 154 #[.val (.int p1), .val (.int p2), .val (.int p3), .val (.int p4), .val (.int p5), .val (.int p6), .val (.int w1), .val (.int w2), .val (.int w3), .val (.int w4), .val (.int w5), .val (.int w6), .val (.int w7), .val (.int w8), .val (.int rm), .val (.ref ad310), .unset, .unset, .unset, .unset] [(.ref ad320), (.ref ad320)])) _
      refine XT.iconstV X320.here hx rfl (0 : Int32) (hb hby at_154) rfl ?_
      show Steps p.tables e below (T320.setTop (mkF m 155 #[.val (.int p1), .val (.int p2), .val (.int p3), .val (.int p4), .val (.int p5), .val (.int p6), .val (.int w1), .val (.int w2), .val (.int w3), .val (.int w4), .val (.int w5), .val (.int w6), .val (.int w7), .val (.int w8), .val (.int rm), .val (.ref ad310), .unset, .unset, .unset, .unset] [(.int (0 : Int32)), (.ref ad320), (.ref ad320)])) _
      refine XT.iconstV X320.here hx rfl (1 : Int32) (hb hby at_155) rfl ?_
      show Steps p.tables e below (T320.setTop (mkF m 156 #[.val (.int p1), .val (.int p2), .val (.int p3), .val (.int p4), .val (.int p5), .val (.int p6), .val (.int w1), .val (.int w2), .val (.int w3), .val (.int w4), .val (.int w5), .val (.int w6), .val (.int w7), .val (.int w8), .val (.int rm), .val (.ref ad310), .unset, .unset, .unset, .unset] [(.int (1 : Int32)), (.int (0 : Int32)), (.ref ad320), (.ref ad320)])) _
      exact k
    obtain ⟨T324, h324, L324, X324, e324, N324, K324, F324, st324⟩ := OwnA.stZ X320 hx hZ e320 N318 b320 F323 (by decide) (by decide) (g := (mkF m 156 #[.val (.int p1), .val (.int p2), .val (.int p3), .val (.int p4), .val (.int p5), .val (.int p6), .val (.int w1), .val (.int w2), .val (.int w3), .val (.int w4), .val (.int w5), .val (.int w6), .val (.int w7), .val (.int w8), .val (.int rm), .val (.ref ad310), .unset, .unset, .unset, .unset] [(.int (1 : Int32)), (.int (0 : Int32)), (.ref ad320), (.ref ad320)])) rfl rfl (hb hby at_156)
    refine OwnWp.step st324 ?_
    have Z324 : n0 ≤ h324.size := Nat.le_trans Z320 K324.1
    have f325 := OwnA.keep f322 K324 (ninS ne320_321 nin0)
    have F326 : OwnA Z h324 ad320 .boolean (4 : Int32) (fun zi => .int ((ownUpd (fun _ => (0 : Int32)) (0 : Int32).toInt (nar .boolean (1 : Int32))) zi)) := F324.congr (fun zi _ _ => by exact ownUpd_int (fun _ => (0 : Int32)) _ _ zi)
    show OwnWp p e below s _ _ _ (T324.setTop (mkF m 157 #[.val (.int p1), .val (.int p2), .val (.int p3), .val (.int p4), .val (.int p5), .val (.int p6), .val (.int w1), .val (.int w2), .val (.int w3), .val (.int w4), .val (.int w5), .val (.int w6), .val (.int w7), .val (.int w8), .val (.int rm), .val (.ref ad310), .unset, .unset, .unset, .unset] [(.ref ad320)]))
    refine OwnWp.step (U' := T324.setTop (mkF m 160 #[.val (.int p1), .val (.int p2), .val (.int p3), .val (.int p4), .val (.int p5), .val (.int p6), .val (.int w1), .val (.int w2), .val (.int w3), .val (.int w4), .val (.int w5), .val (.int w6), .val (.int w7), .val (.int w8), .val (.int rm), .val (.ref ad310), .unset, .unset, .unset, .unset] [(.int (1 : Int32)), (.int (1 : Int32)), (.ref ad320), (.ref ad320)])) (fun t k => ?_) ?_
    · show Steps p.tables e below (T324.setTop (mkF m 157 #[.val (.int p1), .val (.int p2), .val (.int p3), .val (.int p4), .val (.int p5), .val (.int p6), .val (.int w1), .val (.int w2), .val (.int w3), .val (.int w4), .val (.int w5), .val (.int w6), .val (.int w7), .val (.int w8), .val (.int rm), .val (.ref ad310), .unset, .unset, .unset, .unset] [(.ref ad320)])) _
      refine XS.dup X324.here hx rfl (hb hby at_157) rfl rfl ?_
      show Steps p.tables e below (T324.setTop (mkF m 158 #[.val (.int p1), .val (.int p2), .val (.int p3), .val (.int p4), .val (.int p5), .val (.int p6), .val (.int w1), .val (.int w2), .val (.int w3), .val (.int w4), .val (.int w5), .val (.int w6), .val (.int w7), .val (.int w8), .val (.int rm), .val (.ref ad310), .unset, .unset, .unset, .unset] [(.ref ad320), (.ref ad320)])) _
      refine XT.iconstV X324.here hx rfl (1 : Int32) (hb hby at_158) rfl ?_
      show Steps p.tables e below (T324.setTop (mkF m 159 #[.val (.int p1), .val (.int p2), .val (.int p3), .val (.int p4), .val (.int p5), .val (.int p6), .val (.int w1), .val (.int w2), .val (.int w3), .val (.int w4), .val (.int w5), .val (.int w6), .val (.int w7), .val (.int w8), .val (.int rm), .val (.ref ad310), .unset, .unset, .unset, .unset] [(.int (1 : Int32)), (.ref ad320), (.ref ad320)])) _
      refine XT.iconstV X324.here hx rfl (1 : Int32) (hb hby at_159) rfl ?_
      show Steps p.tables e below (T324.setTop (mkF m 160 #[.val (.int p1), .val (.int p2), .val (.int p3), .val (.int p4), .val (.int p5), .val (.int p6), .val (.int w1), .val (.int w2), .val (.int w3), .val (.int w4), .val (.int w5), .val (.int w6), .val (.int w7), .val (.int w8), .val (.int rm), .val (.ref ad310), .unset, .unset, .unset, .unset] [(.int (1 : Int32)), (.int (1 : Int32)), (.ref ad320), (.ref ad320)])) _
      exact k
    obtain ⟨T327, h327, L327, X327, e327, N327, K327, F327, st327⟩ := OwnA.stZ X324 hx hZ e324 N324 b320 F326 (by decide) (by decide) (g := (mkF m 160 #[.val (.int p1), .val (.int p2), .val (.int p3), .val (.int p4), .val (.int p5), .val (.int p6), .val (.int w1), .val (.int w2), .val (.int w3), .val (.int w4), .val (.int w5), .val (.int w6), .val (.int w7), .val (.int w8), .val (.int rm), .val (.ref ad310), .unset, .unset, .unset, .unset] [(.int (1 : Int32)), (.int (1 : Int32)), (.ref ad320), (.ref ad320)])) rfl rfl (hb hby at_160)
    refine OwnWp.step st327 ?_
    have Z327 : n0 ≤ h327.size := Nat.le_trans Z324 K327.1
    have f328 := OwnA.keep f325 K327 (ninS ne320_321 nin0)
    have F329 : OwnA Z h327 ad320 .boolean (4 : Int32) (fun zi => .int ((ownUpd (ownUpd (fun _ => (0 : Int32)) (0 : Int32).toInt (nar .boolean (1 : Int32))) (1 : Int32).toInt (nar .boolean (1 : Int32))) zi)) := F327.congr (fun zi _ _ => by exact ownUpd_int (ownUpd (fun _ => (0 : Int32)) (0 : Int32).toInt (nar .boolean (1 : Int32))) _ _ zi)
    show OwnWp p e below s _ _ _ (T327.setTop (mkF m 161 #[.val (.int p1), .val (.int p2), .val (.int p3), .val (.int p4), .val (.int p5), .val (.int p6), .val (.int w1), .val (.int w2), .val (.int w3), .val (.int w4), .val (.int w5), .val (.int w6), .val (.int w7), .val (.int w8), .val (.int rm), .val (.ref ad310), .unset, .unset, .unset, .unset] [(.ref ad320)]))
    refine OwnWp.step (U' := T327.setTop (mkF m 165 #[.val (.int p1), .val (.int p2), .val (.int p3), .val (.int p4), .val (.int p5), .val (.int p6), .val (.int w1), .val (.int w2), .val (.int w3), .val (.int w4), .val (.int w5), .val (.int w6), .val (.int w7), .val (.int w8), .val (.int rm), .val (.ref ad310), .unset, .unset, .unset, .unset] [(.int w5), (.int (2 : Int32)), (.ref ad320), (.ref ad320)])) (fun t k => ?_) ?_
    · show Steps p.tables e below (T327.setTop (mkF m 161 #[.val (.int p1), .val (.int p2), .val (.int p3), .val (.int p4), .val (.int p5), .val (.int p6), .val (.int w1), .val (.int w2), .val (.int w3), .val (.int w4), .val (.int w5), .val (.int w6), .val (.int w7), .val (.int w8), .val (.int rm), .val (.ref ad310), .unset, .unset, .unset, .unset] [(.ref ad320)])) _
      refine XS.dup X327.here hx rfl (hb hby at_161) rfl rfl ?_
      show Steps p.tables e below (T327.setTop (mkF m 162 #[.val (.int p1), .val (.int p2), .val (.int p3), .val (.int p4), .val (.int p5), .val (.int p6), .val (.int w1), .val (.int w2), .val (.int w3), .val (.int w4), .val (.int w5), .val (.int w6), .val (.int w7), .val (.int w8), .val (.int rm), .val (.ref ad310), .unset, .unset, .unset, .unset] [(.ref ad320), (.ref ad320)])) _
      refine XT.iconstV X327.here hx rfl (2 : Int32) (hb hby at_162) rfl ?_
      show Steps p.tables e below (T327.setTop (mkF m 163 #[.val (.int p1), .val (.int p2), .val (.int p3), .val (.int p4), .val (.int p5), .val (.int p6), .val (.int w1), .val (.int w2), .val (.int w3), .val (.int w4), .val (.int w5), .val (.int w6), .val (.int w7), .val (.int w8), .val (.int rm), .val (.ref ad310), .unset, .unset, .unset, .unset] [(.int (2 : Int32)), (.ref ad320), (.ref ad320)])) _
      refine XS.iload X327.here hx rfl (hb hby at_163) rfl ?_
      show Steps p.tables e below (T327.setTop (mkF m 165 #[.val (.int p1), .val (.int p2), .val (.int p3), .val (.int p4), .val (.int p5), .val (.int p6), .val (.int w1), .val (.int w2), .val (.int w3), .val (.int w4), .val (.int w5), .val (.int w6), .val (.int w7), .val (.int w8), .val (.int rm), .val (.ref ad310), .unset, .unset, .unset, .unset] [(.int w5), (.int (2 : Int32)), (.ref ad320), (.ref ad320)])) _
      exact k
    obtain ⟨T330, h330, L330, X330, e330, N330, K330, F330, st330⟩ := OwnA.stZ X327 hx hZ e327 N327 b320 F329 (by decide) (by decide) (g := (mkF m 165 #[.val (.int p1), .val (.int p2), .val (.int p3), .val (.int p4), .val (.int p5), .val (.int p6), .val (.int w1), .val (.int w2), .val (.int w3), .val (.int w4), .val (.int w5), .val (.int w6), .val (.int w7), .val (.int w8), .val (.int rm), .val (.ref ad310), .unset, .unset, .unset, .unset] [(.int w5), (.int (2 : Int32)), (.ref ad320), (.ref ad320)])) rfl rfl (hb hby at_165)
    refine OwnWp.step st330 ?_
    have Z330 : n0 ≤ h330.size := Nat.le_trans Z327 K330.1
    have f331 := OwnA.keep f328 K330 (ninS ne320_321 nin0)
    have F332 : OwnA Z h330 ad320 .boolean (4 : Int32) (fun zi => .int ((ownUpd (ownUpd (ownUpd (fun _ => (0 : Int32)) (0 : Int32).toInt (nar .boolean (1 : Int32))) (1 : Int32).toInt (nar .boolean (1 : Int32))) (2 : Int32).toInt (nar .boolean w5)) zi)) := F330.congr (fun zi _ _ => by exact ownUpd_int (ownUpd (ownUpd (fun _ => (0 : Int32)) (0 : Int32).toInt (nar .boolean (1 : Int32))) (1 : Int32).toInt (nar .boolean (1 : Int32))) _ _ zi)
    show OwnWp p e below s _ _ _ (T330.setTop (mkF m 166 #[.val (.int p1), .val (.int p2), .val (.int p3), .val (.int p4), .val (.int p5), .val (.int p6), .val (.int w1), .val (.int w2), .val (.int w3), .val (.int w4), .val (.int w5), .val (.int w6), .val (.int w7), .val (.int w8), .val (.int rm), .val (.ref ad310), .unset, .unset, .unset, .unset] [(.ref ad320)]))
    refine OwnWp.step (U' := T330.setTop (mkF m 170 #[.val (.int p1), .val (.int p2), .val (.int p3), .val (.int p4), .val (.int p5), .val (.int p6), .val (.int w1), .val (.int w2), .val (.int w3), .val (.int w4), .val (.int w5), .val (.int w6), .val (.int w7), .val (.int w8), .val (.int rm), .val (.ref ad310), .unset, .unset, .unset, .unset] [(.int w6), (.int (3 : Int32)), (.ref ad320), (.ref ad320)])) (fun t k => ?_) ?_
    · show Steps p.tables e below (T330.setTop (mkF m 166 #[.val (.int p1), .val (.int p2), .val (.int p3), .val (.int p4), .val (.int p5), .val (.int p6), .val (.int w1), .val (.int w2), .val (.int w3), .val (.int w4), .val (.int w5), .val (.int w6), .val (.int w7), .val (.int w8), .val (.int rm), .val (.ref ad310), .unset, .unset, .unset, .unset] [(.ref ad320)])) _
      refine XS.dup X330.here hx rfl (hb hby at_166) rfl rfl ?_
      show Steps p.tables e below (T330.setTop (mkF m 167 #[.val (.int p1), .val (.int p2), .val (.int p3), .val (.int p4), .val (.int p5), .val (.int p6), .val (.int w1), .val (.int w2), .val (.int w3), .val (.int w4), .val (.int w5), .val (.int w6), .val (.int w7), .val (.int w8), .val (.int rm), .val (.ref ad310), .unset, .unset, .unset, .unset] [(.ref ad320), (.ref ad320)])) _
      refine XT.iconstV X330.here hx rfl (3 : Int32) (hb hby at_167) rfl ?_
      show Steps p.tables e below (T330.setTop (mkF m 168 #[.val (.int p1), .val (.int p2), .val (.int p3), .val (.int p4), .val (.int p5), .val (.int p6), .val (.int w1), .val (.int w2), .val (.int w3), .val (.int w4), .val (.int w5), .val (.int w6), .val (.int w7), .val (.int w8), .val (.int rm), .val (.ref ad310), .unset, .unset, .unset, .unset] [(.int (3 : Int32)), (.ref ad320), (.ref ad320)])) _
      refine XS.iload X330.here hx rfl (hb hby at_168) rfl ?_
      show Steps p.tables e below (T330.setTop (mkF m 170 #[.val (.int p1), .val (.int p2), .val (.int p3), .val (.int p4), .val (.int p5), .val (.int p6), .val (.int w1), .val (.int w2), .val (.int w3), .val (.int w4), .val (.int w5), .val (.int w6), .val (.int w7), .val (.int w8), .val (.int rm), .val (.ref ad310), .unset, .unset, .unset, .unset] [(.int w6), (.int (3 : Int32)), (.ref ad320), (.ref ad320)])) _
      exact k
    obtain ⟨T333, h333, L333, X333, e333, N333, K333, F333, st333⟩ := OwnA.stZ X330 hx hZ e330 N330 b320 F332 (by decide) (by decide) (g := (mkF m 170 #[.val (.int p1), .val (.int p2), .val (.int p3), .val (.int p4), .val (.int p5), .val (.int p6), .val (.int w1), .val (.int w2), .val (.int w3), .val (.int w4), .val (.int w5), .val (.int w6), .val (.int w7), .val (.int w8), .val (.int rm), .val (.ref ad310), .unset, .unset, .unset, .unset] [(.int w6), (.int (3 : Int32)), (.ref ad320), (.ref ad320)])) rfl rfl (hb hby at_170)
    refine OwnWp.step st333 ?_
    have Z333 : n0 ≤ h333.size := Nat.le_trans Z330 K333.1
    have f334 := OwnA.keep f331 K333 (ninS ne320_321 nin0)
    have F335 : OwnA Z h333 ad320 .boolean (4 : Int32) (fun zi => .int ((ownUpd (ownUpd (ownUpd (ownUpd (fun _ => (0 : Int32)) (0 : Int32).toInt (nar .boolean (1 : Int32))) (1 : Int32).toInt (nar .boolean (1 : Int32))) (2 : Int32).toInt (nar .boolean w5)) (3 : Int32).toInt (nar .boolean w6)) zi)) := F333.congr (fun zi _ _ => by exact ownUpd_int (ownUpd (ownUpd (ownUpd (fun _ => (0 : Int32)) (0 : Int32).toInt (nar .boolean (1 : Int32))) (1 : Int32).toInt (nar .boolean (1 : Int32))) (2 : Int32).toInt (nar .boolean w5)) _ _ zi)
    show OwnWp p e below s _ _ _ (T333.setTop (mkF m 171 #[.val (.int p1), .val (.int p2), .val (.int p3), .val (.int p4), .val (.int p5), .val (.int p6), .val (.int w1), .val (.int w2), .val (.int w3), .val (.int w4), .val (.int w5), .val (.int w6), .val (.int w7), .val (.int w8), .val (.int rm), .val (.ref ad310), .unset, .unset, .unset, .unset] [(.ref ad320)]))
    have FO : OwnA Z h333 ad320 .boolean (4 : Int32) (fun i => .int ((own_on w5 w6) i)) := OwnA.congr F335 (own_fillO w5 w6 bw5 bw6)
    refine OwnWp.step (U' := T333.setTop (mkF m 173 #[.val (.int p1), .val (.int p2), .val (.int p3), .val (.int p4), .val (.int p5), .val (.int p6), .val (.int w1), .val (.int w2), .val (.int w3), .val (.int w4), .val (.int w5), .val (.int w6), .val (.int w7), .val (.int w8), .val (.int rm), .val (.ref ad310), .val (.ref ad320), .unset, .unset, .unset] [])) (fun t k => ?_) ?_
    · show Steps p.tables e below (T333.setTop (mkF m 171 #[.val (.int p1), .val (.int p2), .val (.int p3), .val (.int p4), .val (.int p5), .val (.int p6), .val (.int w1), .val (.int w2), .val (.int w3), .val (.int w4), .val (.int w5), .val (.int w6), .val (.int w7), .val (.int w8), .val (.int rm), .val (.ref ad310), .unset, .unset, .unset, .unset] [(.ref ad320)])) _
      refine XS.astore X333.here hx rfl (hb hby at_171) rfl rfl (l' := #[.val (.int p1), .val (.int p2), .val (.int p3), .val (.int p4), .val (.int p5), .val (.int p6), .val (.int w1), .val (.int w2), .val (.int w3), .val (.int w4), .val (.int w5), .val (.int w6), .val (.int w7), .val (.int w8), .val (.int rm), .val (.ref ad310), .val (.ref ad320), .unset, .unset, .unset]) rfl ?_
      show Steps p.tables e below (T333.setTop (mkF m 173 #[.val (.int p1), .val (.int p2), .val (.int p3), .val (.int p4), .val (.int p5), .val (.int p6), .val (.int w1), .val (.int w2), .val (.int w3), .val (.int w4), .val (.int w5), .val (.int w6), .val (.int w7), .val (.int w8), .val (.int rm), .val (.ref ad310), .val (.ref ad320), .unset, .unset, .unset] [])) _
      exact k
    obtain ⟨T336, h336, X336, e336, E336, A336, D336, -, st336⟩ := newO X333 hx hZ hown (hw _ (List.mem_of_getElem? (i := 7) rfl)) (hw _ (List.mem_of_getElem? (i := 8) rfl)) (hw _ (List.mem_of_getElem? (i := 9) rfl)) e333 (g := (mkF m 173 #[.val (.int p1), .val (.int p2), .val (.int p3), .val (.int p4), .val (.int p5), .val (.int p6), .val (.int w1), .val (.int w2), .val (.int w3), .val (.int w4), .val (.int w5), .val (.int w6), .val (.int w7), .val (.int w8), .val (.int rm), .val (.ref ad310), .val (.ref ad320), .unset, .unset, .unset] [])) rfl (hb hby at_173) (by decide) (by decide)
    obtain ⟨ad336, ga336⟩ : ∃ z, z = h333.size := ⟨_, rfl⟩
    rw [← ga336] at A336 D336 st336
    refine OwnWp.step st336 ?_
    have ne336_337 : ad310 ≠ ad336 := Nat.ne_of_lt (by rw [ga336]; exact f334.lt)
    have ne336_338 : ad320 ≠ ad336 := Nat.ne_of_lt (by rw [ga336]; exact FO.lt)
    have Z336 : n0 ≤ h336.size := Nat.le_trans Z333 E336.1
    have b336 : n0 ≤ ad336 := Nat.le_trans Z333 (Nat.le_of_eq ga336.symm)
    have f339 := OwnA.ext f334 E336
    have f340 := OwnA.ext FO E336
    have F341 : Fld Z h336 ad336 "com/example/utu/utu/SlotNumbers" "table" "[I" .null := D336 (Or.inl (hw _ (List.mem_of_getElem? (i := 17) rfl))) (ty := (.array .int)) (by decide)
    have F342 : Fld Z h336 ad336 "com/example/utu/utu/SlotNumbers" "size" "I" (.int (0 : Int32)) := D336 (Or.inl (hw _ (List.mem_of_getElem? (i := 40) rfl))) (ty := .int) (by decide)
    show OwnWp p e below s _ _ _ (T336.setTop (mkF m 176 #[.val (.int p1), .val (.int p2), .val (.int p3), .val (.int p4), .val (.int p5), .val (.int p6), .val (.int w1), .val (.int w2), .val (.int w3), .val (.int w4), .val (.int w5), .val (.int w6), .val (.int w7), .val (.int w8), .val (.int rm), .val (.ref ad310), .val (.ref ad320), .unset, .unset, .unset] [(.ref ad336)]))
    refine OwnWp.step (U' := T336.setTop (mkF m 181 #[.val (.int p1), .val (.int p2), .val (.int p3), .val (.int p4), .val (.int p5), .val (.int p6), .val (.int w1), .val (.int w2), .val (.int w3), .val (.int w4), .val (.int w5), .val (.int w6), .val (.int w7), .val (.int w8), .val (.int rm), .val (.ref ad310), .val (.ref ad320), .unset, .unset, .unset] [(.int w2), (.int w1), (.ref ad336), (.ref ad336)])) (fun t k => ?_) ?_
    · show Steps p.tables e below (T336.setTop (mkF m 176 #[.val (.int p1), .val (.int p2), .val (.int p3), .val (.int p4), .val (.int p5), .val (.int p6), .val (.int w1), .val (.int w2), .val (.int w3), .val (.int w4), .val (.int w5), .val (.int w6), .val (.int w7), .val (.int w8), .val (.int rm), .val (.ref ad310), .val (.ref ad320), .unset, .unset, .unset] [(.ref ad336)])) _
      refine XS.dup X336.here hx rfl (hb hby at_176) rfl rfl ?_
      show Steps p.tables e below (T336.setTop (mkF m 177 #[.val (.int p1), .val (.int p2), .val (.int p3), .val (.int p4), .val (.int p5), .val (.int p6), .val (.int w1), .val (.int w2), .val (.int w3), .val (.int w4), .val (.int w5), .val (.int w6), .val (.int w7), .val (.int w8), .val (.int rm), .val (.ref ad310), .val (.ref ad320), .unset, .unset, .unset] [(.ref ad336), (.ref ad336)])) _
      refine XS.iload X336.here hx rfl (hb hby at_177) rfl ?_
      show Steps p.tables e below (T336.setTop (mkF m 179 #[.val (.int p1), .val (.int p2), .val (.int p3), .val (.int p4), .val (.int p5), .val (.int p6), .val (.int w1), .val (.int w2), .val (.int w3), .val (.int w4), .val (.int w5), .val (.int w6), .val (.int w7), .val (.int w8), .val (.int rm), .val (.ref ad310), .val (.ref ad320), .unset, .unset, .unset] [(.int w1), (.ref ad336), (.ref ad336)])) _
      refine XS.iload X336.here hx rfl (hb hby at_179) rfl ?_
      show Steps p.tables e below (T336.setTop (mkF m 181 #[.val (.int p1), .val (.int p2), .val (.int p3), .val (.int p4), .val (.int p5), .val (.int p6), .val (.int w1), .val (.int w2), .val (.int w3), .val (.int w4), .val (.int w5), .val (.int w6), .val (.int w7), .val (.int w8), .val (.int rm), .val (.ref ad310), .val (.ref ad320), .unset, .unset, .unset] [(.int w2), (.int w1), (.ref ad336), (.ref ad336)])) _
      exact k
    obtain ⟨_, _, ⟨T343, L343, k343, n343⟩, -, X343, ⟨Lc343, hQ343, l343, y343, z343⟩, st343⟩ := X336.specialBack hx (y := (⟨"com/example/utu/utu/SlotNumbers", "<init>", "(II)V"⟩ : MethodName)) rfl hown (mvT hZ (hw _ (List.mem_of_getElem? (i := 10) rfl))) (mvT hZ (hw _ (List.mem_of_getElem? (i := 11) rfl))) (mvT hZ (hw _ (List.mem_of_getElem? (i := 12) rfl))) (by decide) (backOf (W := 1) (rm2 l Z a0 hw [] ad336 w1 w2 h336 n0 Z336 b336 A336 F341 F342 zw1 zw2) hZ (hw _ (List.mem_of_getElem? (i := 12) rfl)) (hw _ (List.mem_of_getElem? (i := 9) rfl)) (by decide) (by decide)) (g := (mkF m 181 #[.val (.int p1), .val (.int p2), .val (.int p3), .val (.int p4), .val (.int p5), .val (.int p6), .val (.int w1), .val (.int w2), .val (.int w3), .val (.int w4), .val (.int w5), .val (.int w6), .val (.int w7), .val (.int w8), .val (.int rm), .val (.ref ad310), .val (.ref ad320), .unset, .unset, .unset] [(.int w2), (.int w1), (.ref ad336), (.ref ad336)])) rfl (by rw [hml]; rfl) (Steps.refl _) (a := ad336) (argsL := [(.int w1), (.int w2)]) (rest := [(.ref ad336)]) (lenOf pd_2 rfl) rfl (by show 2 * 0 + _ ≤ _; exact Nat.le_of_eq rfl) (hb hby at_181) (fun _ _ => ⟨rfl, e336, (by dsimp only [Pt.cells]; decide), (by dsimp only [Pt.slots]; decide)⟩)
    dsimp only [Pt.U, Pt.locs, Pt.cells, Pt.slots] at X343 l343 y343 z343 st343 hQ343
    subst l343 y343 z343
    obtain ⟨rfl, Nc343, Kc343, ⟨tb343, nn343, ff343, ss343, lt343, sb343, na343, ft343, fz343, at343, iv343, le343, mm343⟩⟩ := hQ343
    have N343 := Fr.app N333 Nc343
    refine OwnWp.go st343 ?_
    have Z343 : n0 ≤ T343.heap.size := Nat.le_trans Z336 Kc343.1
    have f344 := OwnA.keep f339 Kc343 (ninS ne336_337 nin0)
    have f345 := OwnA.keep f340 Kc343 (ninS ne336_338 nin0)
    have f346 := Exa.keep A336 Kc343
    show OwnWp p e below s _ _ _ (T343.setTop (mkF m 184 #[.val (.int p1), .val (.int p2), .val (.int p3), .val (.int p4), .val (.int p5), .val (.int p6), .val (.int w1), .val (.int w2), .val (.int w3), .val (.int w4), .val (.int w5), .val (.int w6), .val (.int w7), .val (.int w8), .val (.int rm), .val (.ref ad310), .val (.ref ad320), .unset, .unset, .unset] [(.ref ad336)]))
    have nz343_ad310 : ad310 ≠ tb343 := Nat.ne_of_lt (Nat.lt_of_lt_of_le (f339).lt sb343)
    have nz343_ad320 : ad320 ≠ tb343 := Nat.ne_of_lt (Nat.lt_of_lt_of_le (f340).lt sb343)
    have hm0 : ∀ y : Int32, y ≠ 0 → (own_mem nn343.toInt ff343 y ↔ (own_S w1 w2 w3 w4 (0 : Int32) (0 : Int32) (0 : Int32) rm y)) := fun y hy => by rw [mm343 y hy]; exact own_S0 _ _ _ _ _ y
    have hl0 : ss343.toInt ≤ 2 := le343
    refine OwnWp.step (U' := T343.setTop (mkF m 188 #[.val (.int p1), .val (.int p2), .val (.int p3), .val (.int p4), .val (.int p5), .val (.int p6), .val (.int w1), .val (.int w2), .val (.int w3), .val (.int w4), .val (.int w5), .val (.int w6), .val (.int w7), .val (.int w8), .val (.int rm), .val (.ref ad310), .val (.ref ad320), .val (.ref ad336), .unset, .unset] [(.int w5)])) (fun t k => ?_) ?_
    · show Steps p.tables e below (T343.setTop (mkF m 184 #[.val (.int p1), .val (.int p2), .val (.int p3), .val (.int p4), .val (.int p5), .val (.int p6), .val (.int w1), .val (.int w2), .val (.int w3), .val (.int w4), .val (.int w5), .val (.int w6), .val (.int w7), .val (.int w8), .val (.int rm), .val (.ref ad310), .val (.ref ad320), .unset, .unset, .unset] [(.ref ad336)])) _
      refine XS.astore X343.here hx rfl (hb hby at_184) rfl rfl (l' := #[.val (.int p1), .val (.int p2), .val (.int p3), .val (.int p4), .val (.int p5), .val (.int p6), .val (.int w1), .val (.int w2), .val (.int w3), .val (.int w4), .val (.int w5), .val (.int w6), .val (.int w7), .val (.int w8), .val (.int rm), .val (.ref ad310), .val (.ref ad320), .val (.ref ad336), .unset, .unset]) rfl ?_
      show Steps p.tables e below (T343.setTop (mkF m 186 #[.val (.int p1), .val (.int p2), .val (.int p3), .val (.int p4), .val (.int p5), .val (.int p6), .val (.int w1), .val (.int w2), .val (.int w3), .val (.int w4), .val (.int w5), .val (.int w6), .val (.int w7), .val (.int w8), .val (.int rm), .val (.ref ad310), .val (.ref ad320), .val (.ref ad336), .unset, .unset] [])) _
      refine XS.iload X343.here hx rfl (hb hby at_186) rfl ?_
      show Steps p.tables e below (T343.setTop (mkF m 188 #[.val (.int p1), .val (.int p2), .val (.int p3), .val (.int p4), .val (.int p5), .val (.int p6), .val (.int w1), .val (.int w2), .val (.int w3), .val (.int w4), .val (.int w5), .val (.int w6), .val (.int w7), .val (.int w8), .val (.int rm), .val (.ref ad310), .val (.ref ad320), .val (.ref ad336), .unset, .unset] [(.int w5)])) _
      exact k
    have J1 : ∀ (T349 : State) (h349 : Heap) (L349 : List Loc) (tj1 : Addr) (nj1 : Int32) (fj1 : Int → Int32) (sj1 : Int32) (X349 : Stand p l e room_1 s m #[(.int p1), (.int p2), (.int p3), (.int p4), (.int p5), (.int p6)] below meth c T349 L349 7 38) (e349 : T349.heap = h349) (N349 : Fr n0 L349) (Z349 : n0 ≤ h349.size) (f350 : OwnA Z h349 ad310 .int (4 : Int32) (fun zi => .int ((own_ex w1 w2 w3 w4) zi))) (f351 : OwnA Z h349 ad320 .boolean (4 : Int32) (fun zi => .int ((own_on w5 w6) zi))) (f352 : Exa Z h349 ad336 "com/example/utu/utu/SlotNumbers") (f353 : Fld Z h349 ad336 "com/example/utu/utu/SlotNumbers" "table" "[I" (.ref tj1)) (f354 : Fld Z h349 ad336 "com/example/utu/utu/SlotNumbers" "size" "I" (.int sj1)) (f355 : OwnA Z h349 tj1 .int nj1 (fun zi => .int (fj1 zi))) (lj1 : n0 ≤ tj1) (na1 : ad336 ≠ tj1) (nb1 : ad310 ≠ tj1) (nc1 : ad320 ≠ tj1) (ij1 : own_inv nj1 fj1 sj1) (sl1 : sj1.toInt ≤ 3) (mj1 : ∀ y : Int32, y ≠ 0 → (own_mem nj1.toInt fj1 y ↔ (own_S w1 w2 w3 w4 w5 (0 : Int32) (0 : Int32) rm y))), OwnWp p e below s room_1.cells room_1.slots (Q0 Z p1 p2 p3 p4 p5 p6  h0 n0) (T349.setTop (mkF m 198 #[.val (.int p1), .val (.int p2), .val (.int p3), .val (.int p4), .val (.int p5), .val (.int p6), .val (.int w1), .val (.int w2), .val (.int w3), .val (.int w4), .val (.int w5), .val (.int w6), .val (.int w7), .val (.int w8), .val (.int rm), .val (.ref ad310), .val (.ref ad320), .val (.ref ad336), .unset, .unset] [])) := by
      intro T349 h349 L349 tj1 nj1 fj1 sj1 X349 e349 N349 Z349 f350 f351 f352 f353 f354 f355 lj1 na1 nb1 nc1 ij1 sl1 mj1
      refine OwnWp.step (U' := T349.setTop (mkF m 200 #[.val (.int p1), .val (.int p2), .val (.int p3), .val (.int p4), .val (.int p5), .val (.int p6), .val (.int w1), .val (.int w2), .val (.int w3), .val (.int w4), .val (.int w5), .val (.int w6), .val (.int w7), .val (.int w8), .val (.int rm), .val (.ref ad310), .val (.ref ad320), .val (.ref ad336), .unset, .unset] [(.int w6)])) (fun t k => ?_) ?_
      · show Steps p.tables e below (T349.setTop (mkF m 198 #[.val (.int p1), .val (.int p2), .val (.int p3), .val (.int p4), .val (.int p5), .val (.int p6), .val (.int w1), .val (.int w2), .val (.int w3), .val (.int w4), .val (.int w5), .val (.int w6), .val (.int w7), .val (.int w8), .val (.int rm), .val (.ref ad310), .val (.ref ad320), .val (.ref ad336), .unset, .unset] [])) _
        refine XS.iload X349.here hx rfl (hb hby at_198) rfl ?_
        show Steps p.tables e below (T349.setTop (mkF m 200 #[.val (.int p1), .val (.int p2), .val (.int p3), .val (.int p4), .val (.int p5), .val (.int p6), .val (.int w1), .val (.int w2), .val (.int w3), .val (.int w4), .val (.int w5), .val (.int w6), .val (.int w7), .val (.int w8), .val (.int rm), .val (.ref ad310), .val (.ref ad320), .val (.ref ad336), .unset, .unset] [(.int w6)])) _
        exact k
      have J2 : ∀ (T356 : State) (h356 : Heap) (L356 : List Loc) (tj2 : Addr) (nj2 : Int32) (fj2 : Int → Int32) (sj2 : Int32) (X356 : Stand p l e room_1 s m #[(.int p1), (.int p2), (.int p3), (.int p4), (.int p5), (.int p6)] below meth c T356 L356 8 46) (e356 : T356.heap = h356) (N356 : Fr n0 L356) (Z356 : n0 ≤ h356.size) (f357 : OwnA Z h356 ad310 .int (4 : Int32) (fun zi => .int ((own_ex w1 w2 w3 w4) zi))) (f358 : OwnA Z h356 ad320 .boolean (4 : Int32) (fun zi => .int ((own_on w5 w6) zi))) (f359 : Exa Z h356 ad336 "com/example/utu/utu/SlotNumbers") (f360 : Fld Z h356 ad336 "com/example/utu/utu/SlotNumbers" "table" "[I" (.ref tj2)) (f361 : Fld Z h356 ad336 "com/example/utu/utu/SlotNumbers" "size" "I" (.int sj2)) (f362 : OwnA Z h356 tj2 .int nj2 (fun zi => .int (fj2 zi))) (lj2 : n0 ≤ tj2) (na2 : ad336 ≠ tj2) (nb2 : ad310 ≠ tj2) (nc2 : ad320 ≠ tj2) (ij2 : own_inv nj2 fj2 sj2) (sl2 : sj2.toInt ≤ 4) (mj2 : ∀ y : Int32, y ≠ 0 → (own_mem nj2.toInt fj2 y ↔ (own_S w1 w2 w3 w4 w5 w6 (0 : Int32) rm y))), OwnWp p e below s room_1.cells room_1.slots (Q0 Z p1 p2 p3 p4 p5 p6  h0 n0) (T356.setTop (mkF m 210 #[.val (.int p1), .val (.int p2), .val (.int p3), .val (.int p4), .val (.int p5), .val (.int p6), .val (.int w1), .val (.int w2), .val (.int w3), .val (.int w4), .val (.int w5), .val (.int w6), .val (.int w7), .val (.int w8), .val (.int rm), .val (.ref ad310), .val (.ref ad320), .val (.ref ad336), .unset, .unset] [])) := by
        intro T356 h356 L356 tj2 nj2 fj2 sj2 X356 e356 N356 Z356 f357 f358 f359 f360 f361 f362 lj2 na2 nb2 nc2 ij2 sl2 mj2
        refine OwnWp.step (U' := T356.setTop (mkF m 212 #[.val (.int p1), .val (.int p2), .val (.int p3), .val (.int p4), .val (.int p5), .val (.int p6), .val (.int w1), .val (.int w2), .val (.int w3), .val (.int w4), .val (.int w5), .val (.int w6), .val (.int w7), .val (.int w8), .val (.int rm), .val (.ref ad310), .val (.ref ad320), .val (.ref ad336), .unset, .unset] [(.int w8)])) (fun t k => ?_) ?_
        · show Steps p.tables e below (T356.setTop (mkF m 210 #[.val (.int p1), .val (.int p2), .val (.int p3), .val (.int p4), .val (.int p5), .val (.int p6), .val (.int w1), .val (.int w2), .val (.int w3), .val (.int w4), .val (.int w5), .val (.int w6), .val (.int w7), .val (.int w8), .val (.int rm), .val (.ref ad310), .val (.ref ad320), .val (.ref ad336), .unset, .unset] [])) _
          refine XS.iload X356.here hx rfl (hb hby at_210) rfl ?_
          show Steps p.tables e below (T356.setTop (mkF m 212 #[.val (.int p1), .val (.int p2), .val (.int p3), .val (.int p4), .val (.int p5), .val (.int p6), .val (.int w1), .val (.int w2), .val (.int w3), .val (.int w4), .val (.int w5), .val (.int w6), .val (.int w7), .val (.int w8), .val (.int rm), .val (.ref ad310), .val (.ref ad320), .val (.ref ad336), .unset, .unset] [(.int w8)])) _
          exact k
        have J3 : ∀ (T363 : State) (h363 : Heap) (L363 : List Loc) (fj3 : Int → Int32) (sj3 : Int32) (X363 : Stand p l e room_1 s m #[(.int p1), (.int p2), (.int p3), (.int p4), (.int p5), (.int p6)] below meth c T363 L363 10 60) (e363 : T363.heap = h363) (N363 : Fr n0 L363) (Z363 : n0 ≤ h363.size) (f364 : OwnA Z h363 ad310 .int (4 : Int32) (fun zi => .int ((own_ex w1 w2 w3 w4) zi))) (f365 : OwnA Z h363 ad320 .boolean (4 : Int32) (fun zi => .int ((own_on w5 w6) zi))) (f366 : Exa Z h363 ad336 "com/example/utu/utu/SlotNumbers") (f367 : Fld Z h363 ad336 "com/example/utu/utu/SlotNumbers" "table" "[I" (.ref tj2)) (f368 : Fld Z h363 ad336 "com/example/utu/utu/SlotNumbers" "size" "I" (.int sj3)) (f369 : OwnA Z h363 tj2 .int nj2 (fun zi => .int (fj3 zi))) (ij3 : own_tfin nj2 fj3 sj3) (mj3 : ∀ y : Int32, y ≠ 0 → (own_mem nj2.toInt fj3 y ↔ (own_S w1 w2 w3 w4 w5 w6 w8 rm y))), OwnWp p e below s room_1.cells room_1.slots (Q0 Z p1 p2 p3 p4 p5 p6  h0 n0) (T363.setTop (mkF m 222 #[.val (.int p1), .val (.int p2), .val (.int p3), .val (.int p4), .val (.int p5), .val (.int p6), .val (.int w1), .val (.int w2), .val (.int w3), .val (.int w4), .val (.int w5), .val (.int w6), .val (.int w7), .val (.int w8), .val (.int rm), .val (.ref ad310), .val (.ref ad320), .val (.ref ad336), .unset, .unset] [])) := by
          intro T363 h363 L363 fj3 sj3 X363 e363 N363 Z363 f364 f365 f366 f367 f368 f369 ij3 mj3
          refine OwnWp.step (U' := T363.setTop (mkF m 224 #[.val (.int p1), .val (.int p2), .val (.int p3), .val (.int p4), .val (.int p5), .val (.int p6), .val (.int w1), .val (.int w2), .val (.int w3), .val (.int w4), .val (.int w5), .val (.int w6), .val (.int w7), .val (.int w8), .val (.int rm), .val (.ref ad310), .val (.ref ad320), .val (.ref ad336), .unset, .unset] [(.ref ad336)])) (fun t k => ?_) ?_
          · show Steps p.tables e below (T363.setTop (mkF m 222 #[.val (.int p1), .val (.int p2), .val (.int p3), .val (.int p4), .val (.int p5), .val (.int p6), .val (.int w1), .val (.int w2), .val (.int w3), .val (.int w4), .val (.int w5), .val (.int w6), .val (.int w7), .val (.int w8), .val (.int rm), .val (.ref ad310), .val (.ref ad320), .val (.ref ad336), .unset, .unset] [])) _
            refine XS.aload X363.here hx rfl (hb hby at_222) rfl rfl ?_
            show Steps p.tables e below (T363.setTop (mkF m 224 #[.val (.int p1), .val (.int p2), .val (.int p3), .val (.int p4), .val (.int p5), .val (.int p6), .val (.int w1), .val (.int w2), .val (.int w3), .val (.int w4), .val (.int w5), .val (.int w6), .val (.int w7), .val (.int w8), .val (.int rm), .val (.ref ad310), .val (.ref ad320), .val (.ref ad336), .unset, .unset] [(.ref ad336)])) _
            exact k
          obtain ⟨cq370, kq370, qa370, qb370, qc370⟩ := isOf hZ e363 f366
          obtain ⟨_, _, ⟨T370, L370, k370, n370⟩, -, X370, ⟨Lc370, hQ370, l370, y370, z370⟩, st370⟩ := X363.virtualBack hx (y := (⟨"com/example/utu/utu/SlotNumbers", "toArray", "()[I"⟩ : MethodName)) (z := (⟨"com/example/utu/utu/SlotNumbers", "toArray", "()[I"⟩ : MethodName)) hown (mvT hZ (hw _ (List.mem_of_getElem? (i := 90) rfl))) (mvT hZ (hw _ (List.mem_of_getElem? (i := 91) rfl))) (notFace_of_selects (args := #[]) (mvT hZ (hw _ (List.mem_of_getElem? (i := 93) rfl)))) (mvT hZ (hw _ (List.mem_of_getElem? (i := 93) rfl))) (mvT hZ (hw _ (List.mem_of_getElem? (i := 92) rfl))) (by decide) (backOf (W := 0) (rm18 l Z a0 hw [] ad336 tj2 nj2 fj3 sj3 h363 n0 Z363 f367 f368 f369 ij3) hZ (hw _ (List.mem_of_getElem? (i := 94) rfl)) (hw _ (List.mem_of_getElem? (i := 9) rfl)) (by decide) (by decide)) qa370 qc370 (g := (mkF m 224 #[.val (.int p1), .val (.int p2), .val (.int p3), .val (.int p4), .val (.int p5), .val (.int p6), .val (.int w1), .val (.int w2), .val (.int w3), .val (.int w4), .val (.int w5), .val (.int w6), .val (.int w7), .val (.int w8), .val (.int rm), .val (.ref ad310), .val (.ref ad320), .val (.ref ad336), .unset, .unset] [(.ref ad336)])) rfl (by rw [hml]; rfl) (Steps.refl _) (argsL := []) (rest := []) (lenOf pd_18 rfl) rfl (by show 2 * 0 + _ ≤ _; exact Nat.le_of_eq rfl) (hb hby at_224) (fun _ _ => ⟨rfl, e363, (by dsimp only [Pt.cells]; decide), (by dsimp only [Pt.slots]; decide)⟩)
          dsimp only [Pt.U, Pt.locs, Pt.cells, Pt.slots] at X370 l370 y370 z370 st370 hQ370
          subst l370 y370 z370
          obtain ⟨b370, ar370, rfl, Nc370, lb370, sb370, Kc370, ab370, hA370⟩ := hQ370
          have N370 := Fr.app N363 Nc370
          refine OwnWp.go st370 ?_
          have Z370 : n0 ≤ T370.heap.size := Nat.le_trans Z363 Kc370.1
          have f371 := OwnA.keep f364 Kc370 nin0
          have f372 := OwnA.keep f365 Kc370 nin0
          have f373 := Exa.keep f366 Kc370
          have f374 := Fld.keep f367 Kc370 nin0
          have f375 := Fld.keep f368 Kc370 nin0
          have f376 := OwnA.keep f369 Kc370 nin0
          show OwnWp p e below s _ _ _ (T370.setTop (mkF m 227 #[.val (.int p1), .val (.int p2), .val (.int p3), .val (.int p4), .val (.int p5), .val (.int p6), .val (.int w1), .val (.int w2), .val (.int w3), .val (.int w4), .val (.int w5), .val (.int w6), .val (.int w7), .val (.int w8), .val (.int rm), .val (.ref ad310), .val (.ref ad320), .val (.ref ad336), .unset, .unset] [(.ref b370)]))
          have h4 := own_fin4 ij3
          refine OwnWp.step (U' := T370.setTop (mkF m 244 #[.val (.int p1), .val (.int p2), .val (.int p3), .val (.int p4), .val (.int p5), .val (.int p6), .val (.int w1), .val (.int w2), .val (.int w3), .val (.int w4), .val (.int w5), .val (.int w6), .val (.int w7), .val (.int w8), .val (.int rm), .val (.ref ad310), .val (.ref ad320), .val (.ref ad336), .val (.ref b370), .val (.int sj3)] [(.ref ad336), (.int sj3)])) (fun t k => ?_) ?_
          · show Steps p.tables e below (T370.setTop (mkF m 227 #[.val (.int p1), .val (.int p2), .val (.int p3), .val (.int p4), .val (.int p5), .val (.int p6), .val (.int w1), .val (.int w2), .val (.int w3), .val (.int w4), .val (.int w5), .val (.int w6), .val (.int w7), .val (.int w8), .val (.int rm), .val (.ref ad310), .val (.ref ad320), .val (.ref ad336), .unset, .unset] [(.ref b370)])) _
            refine XS.astore X370.here hx rfl (hb hby at_227) rfl rfl (l' := #[.val (.int p1), .val (.int p2), .val (.int p3), .val (.int p4), .val (.int p5), .val (.int p6), .val (.int w1), .val (.int w2), .val (.int w3), .val (.int w4), .val (.int w5), .val (.int w6), .val (.int w7), .val (.int w8), .val (.int rm), .val (.ref ad310), .val (.ref ad320), .val (.ref ad336), .val (.ref b370), .unset]) rfl ?_
            show Steps p.tables e below (T370.setTop (mkF m 229 #[.val (.int p1), .val (.int p2), .val (.int p3), .val (.int p4), .val (.int p5), .val (.int p6), .val (.int w1), .val (.int w2), .val (.int w3), .val (.int w4), .val (.int w5), .val (.int w6), .val (.int w7), .val (.int w8), .val (.int rm), .val (.ref ad310), .val (.ref ad320), .val (.ref ad336), .val (.ref b370), .unset] [])) _
            refine XS.aload X370.here hx rfl (hb hby at_229) rfl rfl ?_
            show Steps p.tables e below (T370.setTop (mkF m 231 #[.val (.int p1), .val (.int p2), .val (.int p3), .val (.int p4), .val (.int p5), .val (.int p6), .val (.int w1), .val (.int w2), .val (.int w3), .val (.int w4), .val (.int w5), .val (.int w6), .val (.int w7), .val (.int w8), .val (.int rm), .val (.ref ad310), .val (.ref ad320), .val (.ref ad336), .val (.ref b370), .unset] [(.ref b370)])) _
            refine OwnA.alen X370 hx hZ (rfl : T370.heap = T370.heap) ab370 rfl rfl (hb hby at_231) ?_
            show Steps p.tables e below (T370.setTop (mkF m 232 #[.val (.int p1), .val (.int p2), .val (.int p3), .val (.int p4), .val (.int p5), .val (.int p6), .val (.int w1), .val (.int w2), .val (.int w3), .val (.int w4), .val (.int w5), .val (.int w6), .val (.int w7), .val (.int w8), .val (.int rm), .val (.ref ad310), .val (.ref ad320), .val (.ref ad336), .val (.ref b370), .unset] [(.int sj3)])) _
            refine XS.istore X370.here hx rfl (hb hby at_232) rfl (l' := #[.val (.int p1), .val (.int p2), .val (.int p3), .val (.int p4), .val (.int p5), .val (.int p6), .val (.int w1), .val (.int w2), .val (.int w3), .val (.int w4), .val (.int w5), .val (.int w6), .val (.int w7), .val (.int w8), .val (.int rm), .val (.ref ad310), .val (.ref ad320), .val (.ref ad336), .val (.ref b370), .val (.int sj3)]) rfl ?_
            show Steps p.tables e below (T370.setTop (mkF m 234 #[.val (.int p1), .val (.int p2), .val (.int p3), .val (.int p4), .val (.int p5), .val (.int p6), .val (.int w1), .val (.int w2), .val (.int w3), .val (.int w4), .val (.int w5), .val (.int w6), .val (.int w7), .val (.int w8), .val (.int rm), .val (.ref ad310), .val (.ref ad320), .val (.ref ad336), .val (.ref b370), .val (.int sj3)] [])) _
            refine XS.iload X370.here hx rfl (hb hby at_234) rfl ?_
            show Steps p.tables e below (T370.setTop (mkF m 236 #[.val (.int p1), .val (.int p2), .val (.int p3), .val (.int p4), .val (.int p5), .val (.int p6), .val (.int w1), .val (.int w2), .val (.int w3), .val (.int w4), .val (.int w5), .val (.int w6), .val (.int w7), .val (.int w8), .val (.int rm), .val (.ref ad310), .val (.ref ad320), .val (.ref ad336), .val (.ref b370), .val (.int sj3)] [(.int sj3)])) _
            refine XT.iconstV X370.here hx rfl (4 : Int32) (hb hby at_236) rfl ?_
            show Steps p.tables e below (T370.setTop (mkF m 237 #[.val (.int p1), .val (.int p2), .val (.int p3), .val (.int p4), .val (.int p5), .val (.int p6), .val (.int w1), .val (.int w2), .val (.int w3), .val (.int w4), .val (.int w5), .val (.int w6), .val (.int w7), .val (.int w8), .val (.int rm), .val (.ref ad310), .val (.ref ad320), .val (.ref ad336), .val (.ref b370), .val (.int sj3)] [(.int (4 : Int32)), (.int sj3)])) _
            refine XS.icmpNo X370.here hx rfl (hb hby at_237) rfl (XT.ii_gt_f h4) ?_
            show Steps p.tables e below (T370.setTop (mkF m 240 #[.val (.int p1), .val (.int p2), .val (.int p3), .val (.int p4), .val (.int p5), .val (.int p6), .val (.int w1), .val (.int w2), .val (.int w3), .val (.int w4), .val (.int w5), .val (.int w6), .val (.int w7), .val (.int w8), .val (.int rm), .val (.ref ad310), .val (.ref ad320), .val (.ref ad336), .val (.ref b370), .val (.int sj3)] [])) _
            refine XS.iload X370.here hx rfl (hb hby at_240) rfl ?_
            show Steps p.tables e below (T370.setTop (mkF m 242 #[.val (.int p1), .val (.int p2), .val (.int p3), .val (.int p4), .val (.int p5), .val (.int p6), .val (.int w1), .val (.int w2), .val (.int w3), .val (.int w4), .val (.int w5), .val (.int w6), .val (.int w7), .val (.int w8), .val (.int rm), .val (.ref ad310), .val (.ref ad320), .val (.ref ad336), .val (.ref b370), .val (.int sj3)] [(.int sj3)])) _
            refine XS.aload X370.here hx rfl (hb hby at_242) rfl rfl ?_
            show Steps p.tables e below (T370.setTop (mkF m 244 #[.val (.int p1), .val (.int p2), .val (.int p3), .val (.int p4), .val (.int p5), .val (.int p6), .val (.int w1), .val (.int w2), .val (.int w3), .val (.int w4), .val (.int w5), .val (.int w6), .val (.int w7), .val (.int w8), .val (.int rm), .val (.ref ad310), .val (.ref ad320), .val (.ref ad336), .val (.ref b370), .val (.int sj3)] [(.ref ad336), (.int sj3)])) _
            exact k
          obtain ⟨cq377, kq377, qa377, qb377, qc377⟩ := isOf hZ (rfl : T370.heap = T370.heap) f373
          obtain ⟨_, _, ⟨T377, L377, k377, n377⟩, -, X377, ⟨Lc377, hQ377, l377, y377, z377⟩, st377⟩ := X370.virtualBack hx (y := (⟨"com/example/utu/utu/SlotNumbers", "size", "()I"⟩ : MethodName)) (z := (⟨"com/example/utu/utu/SlotNumbers", "size", "()I"⟩ : MethodName)) hown (mvT hZ (hw _ (List.mem_of_getElem? (i := 95) rfl))) (mvT hZ (hw _ (List.mem_of_getElem? (i := 96) rfl))) (notFace_of_selects (args := #[]) (mvT hZ (hw _ (List.mem_of_getElem? (i := 98) rfl)))) (mvT hZ (hw _ (List.mem_of_getElem? (i := 98) rfl))) (mvT hZ (hw _ (List.mem_of_getElem? (i := 97) rfl))) (by decide) (backOf (W := 1) (rm19 l Z a0 hw [] ad336 sj3 T370.heap n0 Z370 f375) hZ (hw _ (List.mem_of_getElem? (i := 99) rfl)) (hw _ (List.mem_of_getElem? (i := 9) rfl)) (by decide) (by decide)) qa377 qc377 (g := (mkF m 244 #[.val (.int p1), .val (.int p2), .val (.int p3), .val (.int p4), .val (.int p5), .val (.int p6), .val (.int w1), .val (.int w2), .val (.int w3), .val (.int w4), .val (.int w5), .val (.int w6), .val (.int w7), .val (.int w8), .val (.int rm), .val (.ref ad310), .val (.ref ad320), .val (.ref ad336), .val (.ref b370), .val (.int sj3)] [(.ref ad336), (.int sj3)])) rfl (by rw [hml]; rfl) (Steps.refl _) (argsL := []) (rest := [(.int sj3)]) (lenOf pd_19 rfl) rfl (by show 2 * 0 + _ ≤ _; exact Nat.le_of_eq rfl) (hb hby at_244) (fun _ _ => ⟨rfl, (rfl : T370.heap = T370.heap), (by dsimp only [Pt.cells]; decide), (by dsimp only [Pt.slots]; decide)⟩)
          dsimp only [Pt.U, Pt.locs, Pt.cells, Pt.slots] at X377 l377 y377 z377 st377 hQ377
          subst l377 y377 z377
          obtain ⟨rfl, Nc377, hp377⟩ := hQ377
          have N377 := Fr.app N370 Nc377
          refine OwnWp.go st377 ?_
          have eh377 : T377.heap = T370.heap := hp377
          show OwnWp p e below s _ _ _ (T377.setTop (mkF m 247 #[.val (.int p1), .val (.int p2), .val (.int p3), .val (.int p4), .val (.int p5), .val (.int p6), .val (.int w1), .val (.int w2), .val (.int w3), .val (.int w4), .val (.int w5), .val (.int w6), .val (.int w7), .val (.int w8), .val (.int rm), .val (.ref ad310), .val (.ref ad320), .val (.ref ad336), .val (.ref b370), .val (.int sj3)] [(.int sj3), (.int sj3)]))
          refine OwnWp.step (U' := T377.setTop (mkF m 263 #[.val (.int p1), .val (.int p2), .val (.int p3), .val (.int p4), .val (.int p5), .val (.int p6), .val (.int w1), .val (.int w2), .val (.int w3), .val (.int w4), .val (.int w5), .val (.int w6), .val (.int w7), .val (.int w8), .val (.int rm), .val (.ref ad310), .val (.ref ad320), .val (.ref ad336), .val (.ref b370), .val (.int sj3)] [(.int rm), (.int w8), (.ref ad320), (.ref ad310), (.int (0 : Int32)), (.ref b370)])) (fun t k => ?_) ?_
          · show Steps p.tables e below (T377.setTop (mkF m 247 #[.val (.int p1), .val (.int p2), .val (.int p3), .val (.int p4), .val (.int p5), .val (.int p6), .val (.int w1), .val (.int w2), .val (.int w3), .val (.int w4), .val (.int w5), .val (.int w6), .val (.int w7), .val (.int w8), .val (.int rm), .val (.ref ad310), .val (.ref ad320), .val (.ref ad336), .val (.ref b370), .val (.int sj3)] [(.int sj3), (.int sj3)])) _
            refine XS.icmpYes X377.here hx rfl (pc0 := 247) (pc' := 252) rfl (hb hby at_247) rfl (XT.ii_eq_t rfl) (by decide) (by decide) ?_
            show Steps p.tables e below (T377.setTop (mkF m 252 #[.val (.int p1), .val (.int p2), .val (.int p3), .val (.int p4), .val (.int p5), .val (.int p6), .val (.int w1), .val (.int w2), .val (.int w3), .val (.int w4), .val (.int w5), .val (.int w6), .val (.int w7), .val (.int w8), .val (.int rm), .val (.ref ad310), .val (.ref ad320), .val (.ref ad336), .val (.ref b370), .val (.int sj3)] [])) _
            refine XS.aload X377.here hx rfl (hb hby at_252) rfl rfl ?_
            show Steps p.tables e below (T377.setTop (mkF m 254 #[.val (.int p1), .val (.int p2), .val (.int p3), .val (.int p4), .val (.int p5), .val (.int p6), .val (.int w1), .val (.int w2), .val (.int w3), .val (.int w4), .val (.int w5), .val (.int w6), .val (.int w7), .val (.int w8), .val (.int rm), .val (.ref ad310), .val (.ref ad320), .val (.ref ad336), .val (.ref b370), .val (.int sj3)] [(.ref b370)])) _
            refine XT.iconstV X377.here hx rfl (0 : Int32) (hb hby at_254) rfl ?_
            show Steps p.tables e below (T377.setTop (mkF m 255 #[.val (.int p1), .val (.int p2), .val (.int p3), .val (.int p4), .val (.int p5), .val (.int p6), .val (.int w1), .val (.int w2), .val (.int w3), .val (.int w4), .val (.int w5), .val (.int w6), .val (.int w7), .val (.int w8), .val (.int rm), .val (.ref ad310), .val (.ref ad320), .val (.ref ad336), .val (.ref b370), .val (.int sj3)] [(.int (0 : Int32)), (.ref b370)])) _
            refine XS.aload X377.here hx rfl (hb hby at_255) rfl rfl ?_
            show Steps p.tables e below (T377.setTop (mkF m 257 #[.val (.int p1), .val (.int p2), .val (.int p3), .val (.int p4), .val (.int p5), .val (.int p6), .val (.int w1), .val (.int w2), .val (.int w3), .val (.int w4), .val (.int w5), .val (.int w6), .val (.int w7), .val (.int w8), .val (.int rm), .val (.ref ad310), .val (.ref ad320), .val (.ref ad336), .val (.ref b370), .val (.int sj3)] [(.ref ad310), (.int (0 : Int32)), (.ref b370)])) _
            refine XS.aload X377.here hx rfl (hb hby at_257) rfl rfl ?_
            show Steps p.tables e below (T377.setTop (mkF m 259 #[.val (.int p1), .val (.int p2), .val (.int p3), .val (.int p4), .val (.int p5), .val (.int p6), .val (.int w1), .val (.int w2), .val (.int w3), .val (.int w4), .val (.int w5), .val (.int w6), .val (.int w7), .val (.int w8), .val (.int rm), .val (.ref ad310), .val (.ref ad320), .val (.ref ad336), .val (.ref b370), .val (.int sj3)] [(.ref ad320), (.ref ad310), (.int (0 : Int32)), (.ref b370)])) _
            refine XS.iload X377.here hx rfl (hb hby at_259) rfl ?_
            show Steps p.tables e below (T377.setTop (mkF m 261 #[.val (.int p1), .val (.int p2), .val (.int p3), .val (.int p4), .val (.int p5), .val (.int p6), .val (.int w1), .val (.int w2), .val (.int w3), .val (.int w4), .val (.int w5), .val (.int w6), .val (.int w7), .val (.int w8), .val (.int rm), .val (.ref ad310), .val (.ref ad320), .val (.ref ad336), .val (.ref b370), .val (.int sj3)] [(.int w8), (.ref ad320), (.ref ad310), (.int (0 : Int32)), (.ref b370)])) _
            refine XS.iload X377.here hx rfl (hb hby at_261) rfl ?_
            show Steps p.tables e below (T377.setTop (mkF m 263 #[.val (.int p1), .val (.int p2), .val (.int p3), .val (.int p4), .val (.int p5), .val (.int p6), .val (.int w1), .val (.int w2), .val (.int w3), .val (.int w4), .val (.int w5), .val (.int w6), .val (.int w7), .val (.int w8), .val (.int rm), .val (.ref ad310), .val (.ref ad320), .val (.ref ad336), .val (.ref b370), .val (.int sj3)] [(.int rm), (.int w8), (.ref ad320), (.ref ad310), (.int (0 : Int32)), (.ref b370)])) _
            exact k
          obtain ⟨_, _, ⟨T378, L378, k378, n378⟩, -, X378, ⟨Lc378, hQ378, l378, y378, z378⟩, st378⟩ := Jvm.LawKit.callS X377 hx (y := (⟨"com/example/utu/utu/SlotNumbersToArrayPinLaw", "entryOk", "([II[I[ZZI)Z"⟩ : MethodName)) hown (mvT hZ (hw _ (List.mem_of_getElem? (i := 100) rfl))) (mvT hZ (hw _ (List.mem_of_getElem? (i := 101) rfl))) (mvT hZ (hw _ (List.mem_of_getElem? (i := 2) rfl))) (mvT hZ (hw _ (List.mem_of_getElem? (i := 102) rfl))) (by decide) (backOf (W := 0) (rm20 l Z a0 hw [] b370 (0 : Int32) ad310 ad320 w8 rm sj3 ar370 (own_ex w1 w2 w3 w4) (own_on w5 w6) T370.heap n0 Z370 ab370 f371 f372 (by decide)) hZ (hw _ (List.mem_of_getElem? (i := 102) rfl)) (hw _ (List.mem_of_getElem? (i := 2) rfl)) (by decide) (by decide)) (g := (mkF m 263 #[.val (.int p1), .val (.int p2), .val (.int p3), .val (.int p4), .val (.int p5), .val (.int p6), .val (.int w1), .val (.int w2), .val (.int w3), .val (.int w4), .val (.int w5), .val (.int w6), .val (.int w7), .val (.int w8), .val (.int rm), .val (.ref ad310), .val (.ref ad320), .val (.ref ad336), .val (.ref b370), .val (.int sj3)] [(.int rm), (.int w8), (.ref ad320), (.ref ad310), (.int (0 : Int32)), (.ref b370)])) rfl (by rw [hml]; rfl) (argsL := [(.ref b370), (.int (0 : Int32)), (.ref ad310), (.ref ad320), (.int w8), (.int rm)]) (rest := []) (lenOf pd_20 rfl) rfl (by show 2 * 0 + _ ≤ _; exact Nat.le_of_eq rfl) (hb hby at_263) (fun _ _ => ⟨rfl, eh377, (by dsimp only [Pt.cells]; decide), (by dsimp only [Pt.slots]; decide)⟩)
          dsimp only [Pt.U, Pt.locs, Pt.cells, Pt.slots] at X378 l378 y378 z378 st378 hQ378
          subst l378 y378 z378
          obtain ⟨rfl, Nc378, hp378⟩ := hQ378
          have N378 := Fr.app N377 Nc378
          refine OwnWp.step st378 ?_
          have eh378 : T378.heap = T370.heap := hp378
          show OwnWp p e below s _ _ _ (T378.setTop (mkF m 266 #[.val (.int p1), .val (.int p2), .val (.int p3), .val (.int p4), .val (.int p5), .val (.int p6), .val (.int w1), .val (.int w2), .val (.int w3), .val (.int w4), .val (.int w5), .val (.int w6), .val (.int w7), .val (.int w8), .val (.int rm), .val (.ref ad310), .val (.ref ad320), .val (.ref ad336), .val (.ref b370), .val (.int sj3)] [(.int (own_entry sj3 ar370 (0 : Int32) (own_ex w1 w2 w3 w4) (own_on w5 w6) w8 rm))]))
          rw [own_entry1 hA370 mj3 (0 : Int32) (by decide)]
          show OwnWp p e below s _ _ _ (T378.setTop (mkF m 266 #[.val (.int p1), .val (.int p2), .val (.int p3), .val (.int p4), .val (.int p5), .val (.int p6), .val (.int w1), .val (.int w2), .val (.int w3), .val (.int w4), .val (.int w5), .val (.int w6), .val (.int w7), .val (.int w8), .val (.int rm), .val (.ref ad310), .val (.ref ad320), .val (.ref ad336), .val (.ref b370), .val (.int sj3)] [(.int (1 : Int32))]))
          refine OwnWp.step (U' := T378.setTop (mkF m 280 #[.val (.int p1), .val (.int p2), .val (.int p3), .val (.int p4), .val (.int p5), .val (.int p6), .val (.int w1), .val (.int w2), .val (.int w3), .val (.int w4), .val (.int w5), .val (.int w6), .val (.int w7), .val (.int w8), .val (.int rm), .val (.ref ad310), .val (.ref ad320), .val (.ref ad336), .val (.ref b370), .val (.int sj3)] [(.int rm), (.int w8), (.ref ad320), (.ref ad310), (.int (1 : Int32)), (.ref b370)])) (fun t k => ?_) ?_
          · show Steps p.tables e below (T378.setTop (mkF m 266 #[.val (.int p1), .val (.int p2), .val (.int p3), .val (.int p4), .val (.int p5), .val (.int p6), .val (.int w1), .val (.int w2), .val (.int w3), .val (.int w4), .val (.int w5), .val (.int w6), .val (.int w7), .val (.int w8), .val (.int rm), .val (.ref ad310), .val (.ref ad320), .val (.ref ad336), .val (.ref b370), .val (.int sj3)] [(.int (1 : Int32))])) _
            refine XS.ifNo X378.here hx rfl (hb hby at_266) rfl (XT.i0_eq_f (by decide)) ?_
            show Steps p.tables e below (T378.setTop (mkF m 269 #[.val (.int p1), .val (.int p2), .val (.int p3), .val (.int p4), .val (.int p5), .val (.int p6), .val (.int w1), .val (.int w2), .val (.int w3), .val (.int w4), .val (.int w5), .val (.int w6), .val (.int w7), .val (.int w8), .val (.int rm), .val (.ref ad310), .val (.ref ad320), .val (.ref ad336), .val (.ref b370), .val (.int sj3)] [])) _
            refine XS.aload X378.here hx rfl (hb hby at_269) rfl rfl ?_
            show Steps p.tables e below (T378.setTop (mkF m 271 #[.val (.int p1), .val (.int p2), .val (.int p3), .val (.int p4), .val (.int p5), .val (.int p6), .val (.int w1), .val (.int w2), .val (.int w3), .val (.int w4), .val (.int w5), .val (.int w6), .val (.int w7), .val (.int w8), .val (.int rm), .val (.ref ad310), .val (.ref ad320), .val (.ref ad336), .val (.ref b370), .val (.int sj3)] [(.ref b370)])) _
            refine XT.iconstV X378.here hx rfl (1 : Int32) (hb hby at_271) rfl ?_
            show Steps p.tables e below (T378.setTop (mkF m 272 #[.val (.int p1), .val (.int p2), .val (.int p3), .val (.int p4), .val (.int p5), .val (.int p6), .val (.int w1), .val (.int w2), .val (.int w3), .val (.int w4), .val (.int w5), .val (.int w6), .val (.int w7), .val (.int w8), .val (.int rm), .val (.ref ad310), .val (.ref ad320), .val (.ref ad336), .val (.ref b370), .val (.int sj3)] [(.int (1 : Int32)), (.ref b370)])) _
            refine XS.aload X378.here hx rfl (hb hby at_272) rfl rfl ?_
            show Steps p.tables e below (T378.setTop (mkF m 274 #[.val (.int p1), .val (.int p2), .val (.int p3), .val (.int p4), .val (.int p5), .val (.int p6), .val (.int w1), .val (.int w2), .val (.int w3), .val (.int w4), .val (.int w5), .val (.int w6), .val (.int w7), .val (.int w8), .val (.int rm), .val (.ref ad310), .val (.ref ad320), .val (.ref ad336), .val (.ref b370), .val (.int sj3)] [(.ref ad310), (.int (1 : Int32)), (.ref b370)])) _
            refine XS.aload X378.here hx rfl (hb hby at_274) rfl rfl ?_
            show Steps p.tables e below (T378.setTop (mkF m 276 #[.val (.int p1), .val (.int p2), .val (.int p3), .val (.int p4), .val (.int p5), .val (.int p6), .val (.int w1), .val (.int w2), .val (.int w3), .val (.int w4), .val (.int w5), .val (.int w6), .val (.int w7), .val (.int w8), .val (.int rm), .val (.ref ad310), .val (.ref ad320), .val (.ref ad336), .val (.ref b370), .val (.int sj3)] [(.ref ad320), (.ref ad310), (.int (1 : Int32)), (.ref b370)])) _
            refine XS.iload X378.here hx rfl (hb hby at_276) rfl ?_
            show Steps p.tables e below (T378.setTop (mkF m 278 #[.val (.int p1), .val (.int p2), .val (.int p3), .val (.int p4), .val (.int p5), .val (.int p6), .val (.int w1), .val (.int w2), .val (.int w3), .val (.int w4), .val (.int w5), .val (.int w6), .val (.int w7), .val (.int w8), .val (.int rm), .val (.ref ad310), .val (.ref ad320), .val (.ref ad336), .val (.ref b370), .val (.int sj3)] [(.int w8), (.ref ad320), (.ref ad310), (.int (1 : Int32)), (.ref b370)])) _
            refine XS.iload X378.here hx rfl (hb hby at_278) rfl ?_
            show Steps p.tables e below (T378.setTop (mkF m 280 #[.val (.int p1), .val (.int p2), .val (.int p3), .val (.int p4), .val (.int p5), .val (.int p6), .val (.int w1), .val (.int w2), .val (.int w3), .val (.int w4), .val (.int w5), .val (.int w6), .val (.int w7), .val (.int w8), .val (.int rm), .val (.ref ad310), .val (.ref ad320), .val (.ref ad336), .val (.ref b370), .val (.int sj3)] [(.int rm), (.int w8), (.ref ad320), (.ref ad310), (.int (1 : Int32)), (.ref b370)])) _
            exact k
          obtain ⟨_, _, ⟨T379, L379, k379, n379⟩, -, X379, ⟨Lc379, hQ379, l379, y379, z379⟩, st379⟩ := Jvm.LawKit.callS X378 hx (y := (⟨"com/example/utu/utu/SlotNumbersToArrayPinLaw", "entryOk", "([II[I[ZZI)Z"⟩ : MethodName)) hown (mvT hZ (hw _ (List.mem_of_getElem? (i := 100) rfl))) (mvT hZ (hw _ (List.mem_of_getElem? (i := 101) rfl))) (mvT hZ (hw _ (List.mem_of_getElem? (i := 2) rfl))) (mvT hZ (hw _ (List.mem_of_getElem? (i := 102) rfl))) (by decide) (backOf (W := 0) (rm20 l Z a0 hw [] b370 (1 : Int32) ad310 ad320 w8 rm sj3 ar370 (own_ex w1 w2 w3 w4) (own_on w5 w6) T370.heap n0 Z370 ab370 f371 f372 (by decide)) hZ (hw _ (List.mem_of_getElem? (i := 102) rfl)) (hw _ (List.mem_of_getElem? (i := 2) rfl)) (by decide) (by decide)) (g := (mkF m 280 #[.val (.int p1), .val (.int p2), .val (.int p3), .val (.int p4), .val (.int p5), .val (.int p6), .val (.int w1), .val (.int w2), .val (.int w3), .val (.int w4), .val (.int w5), .val (.int w6), .val (.int w7), .val (.int w8), .val (.int rm), .val (.ref ad310), .val (.ref ad320), .val (.ref ad336), .val (.ref b370), .val (.int sj3)] [(.int rm), (.int w8), (.ref ad320), (.ref ad310), (.int (1 : Int32)), (.ref b370)])) rfl (by rw [hml]; rfl) (argsL := [(.ref b370), (.int (1 : Int32)), (.ref ad310), (.ref ad320), (.int w8), (.int rm)]) (rest := []) (lenOf pd_20 rfl) rfl (by show 2 * 0 + _ ≤ _; exact Nat.le_of_eq rfl) (hb hby at_280) (fun _ _ => ⟨rfl, eh378, (by dsimp only [Pt.cells]; decide), (by dsimp only [Pt.slots]; decide)⟩)
          dsimp only [Pt.U, Pt.locs, Pt.cells, Pt.slots] at X379 l379 y379 z379 st379 hQ379
          subst l379 y379 z379
          obtain ⟨rfl, Nc379, hp379⟩ := hQ379
          have N379 := Fr.app N378 Nc379
          refine OwnWp.step st379 ?_
          have eh379 : T379.heap = T370.heap := hp379
          show OwnWp p e below s _ _ _ (T379.setTop (mkF m 283 #[.val (.int p1), .val (.int p2), .val (.int p3), .val (.int p4), .val (.int p5), .val (.int p6), .val (.int w1), .val (.int w2), .val (.int w3), .val (.int w4), .val (.int w5), .val (.int w6), .val (.int w7), .val (.int w8), .val (.int rm), .val (.ref ad310), .val (.ref ad320), .val (.ref ad336), .val (.ref b370), .val (.int sj3)] [(.int (own_entry sj3 ar370 (1 : Int32) (own_ex w1 w2 w3 w4) (own_on w5 w6) w8 rm))]))
          rw [own_entry1 hA370 mj3 (1 : Int32) (by decide)]
          show OwnWp p e below s _ _ _ (T379.setTop (mkF m 283 #[.val (.int p1), .val (.int p2), .val (.int p3), .val (.int p4), .val (.int p5), .val (.int p6), .val (.int w1), .val (.int w2), .val (.int w3), .val (.int w4), .val (.int w5), .val (.int w6), .val (.int w7), .val (.int w8), .val (.int rm), .val (.ref ad310), .val (.ref ad320), .val (.ref ad336), .val (.ref b370), .val (.int sj3)] [(.int (1 : Int32))]))
          refine OwnWp.step (U' := T379.setTop (mkF m 297 #[.val (.int p1), .val (.int p2), .val (.int p3), .val (.int p4), .val (.int p5), .val (.int p6), .val (.int w1), .val (.int w2), .val (.int w3), .val (.int w4), .val (.int w5), .val (.int w6), .val (.int w7), .val (.int w8), .val (.int rm), .val (.ref ad310), .val (.ref ad320), .val (.ref ad336), .val (.ref b370), .val (.int sj3)] [(.int rm), (.int w8), (.ref ad320), (.ref ad310), (.int (2 : Int32)), (.ref b370)])) (fun t k => ?_) ?_
          · show Steps p.tables e below (T379.setTop (mkF m 283 #[.val (.int p1), .val (.int p2), .val (.int p3), .val (.int p4), .val (.int p5), .val (.int p6), .val (.int w1), .val (.int w2), .val (.int w3), .val (.int w4), .val (.int w5), .val (.int w6), .val (.int w7), .val (.int w8), .val (.int rm), .val (.ref ad310), .val (.ref ad320), .val (.ref ad336), .val (.ref b370), .val (.int sj3)] [(.int (1 : Int32))])) _
            refine XS.ifNo X379.here hx rfl (hb hby at_283) rfl (XT.i0_eq_f (by decide)) ?_
            show Steps p.tables e below (T379.setTop (mkF m 286 #[.val (.int p1), .val (.int p2), .val (.int p3), .val (.int p4), .val (.int p5), .val (.int p6), .val (.int w1), .val (.int w2), .val (.int w3), .val (.int w4), .val (.int w5), .val (.int w6), .val (.int w7), .val (.int w8), .val (.int rm), .val (.ref ad310), .val (.ref ad320), .val (.ref ad336), .val (.ref b370), .val (.int sj3)] [])) _
            refine XS.aload X379.here hx rfl (hb hby at_286) rfl rfl ?_
            show Steps p.tables e below (T379.setTop (mkF m 288 #[.val (.int p1), .val (.int p2), .val (.int p3), .val (.int p4), .val (.int p5), .val (.int p6), .val (.int w1), .val (.int w2), .val (.int w3), .val (.int w4), .val (.int w5), .val (.int w6), .val (.int w7), .val (.int w8), .val (.int rm), .val (.ref ad310), .val (.ref ad320), .val (.ref ad336), .val (.ref b370), .val (.int sj3)] [(.ref b370)])) _
            refine XT.iconstV X379.here hx rfl (2 : Int32) (hb hby at_288) rfl ?_
            show Steps p.tables e below (T379.setTop (mkF m 289 #[.val (.int p1), .val (.int p2), .val (.int p3), .val (.int p4), .val (.int p5), .val (.int p6), .val (.int w1), .val (.int w2), .val (.int w3), .val (.int w4), .val (.int w5), .val (.int w6), .val (.int w7), .val (.int w8), .val (.int rm), .val (.ref ad310), .val (.ref ad320), .val (.ref ad336), .val (.ref b370), .val (.int sj3)] [(.int (2 : Int32)), (.ref b370)])) _
            refine XS.aload X379.here hx rfl (hb hby at_289) rfl rfl ?_
            show Steps p.tables e below (T379.setTop (mkF m 291 #[.val (.int p1), .val (.int p2), .val (.int p3), .val (.int p4), .val (.int p5), .val (.int p6), .val (.int w1), .val (.int w2), .val (.int w3), .val (.int w4), .val (.int w5), .val (.int w6), .val (.int w7), .val (.int w8), .val (.int rm), .val (.ref ad310), .val (.ref ad320), .val (.ref ad336), .val (.ref b370), .val (.int sj3)] [(.ref ad310), (.int (2 : Int32)), (.ref b370)])) _
            refine XS.aload X379.here hx rfl (hb hby at_291) rfl rfl ?_
            show Steps p.tables e below (T379.setTop (mkF m 293 #[.val (.int p1), .val (.int p2), .val (.int p3), .val (.int p4), .val (.int p5), .val (.int p6), .val (.int w1), .val (.int w2), .val (.int w3), .val (.int w4), .val (.int w5), .val (.int w6), .val (.int w7), .val (.int w8), .val (.int rm), .val (.ref ad310), .val (.ref ad320), .val (.ref ad336), .val (.ref b370), .val (.int sj3)] [(.ref ad320), (.ref ad310), (.int (2 : Int32)), (.ref b370)])) _
            refine XS.iload X379.here hx rfl (hb hby at_293) rfl ?_
            show Steps p.tables e below (T379.setTop (mkF m 295 #[.val (.int p1), .val (.int p2), .val (.int p3), .val (.int p4), .val (.int p5), .val (.int p6), .val (.int w1), .val (.int w2), .val (.int w3), .val (.int w4), .val (.int w5), .val (.int w6), .val (.int w7), .val (.int w8), .val (.int rm), .val (.ref ad310), .val (.ref ad320), .val (.ref ad336), .val (.ref b370), .val (.int sj3)] [(.int w8), (.ref ad320), (.ref ad310), (.int (2 : Int32)), (.ref b370)])) _
            refine XS.iload X379.here hx rfl (hb hby at_295) rfl ?_
            show Steps p.tables e below (T379.setTop (mkF m 297 #[.val (.int p1), .val (.int p2), .val (.int p3), .val (.int p4), .val (.int p5), .val (.int p6), .val (.int w1), .val (.int w2), .val (.int w3), .val (.int w4), .val (.int w5), .val (.int w6), .val (.int w7), .val (.int w8), .val (.int rm), .val (.ref ad310), .val (.ref ad320), .val (.ref ad336), .val (.ref b370), .val (.int sj3)] [(.int rm), (.int w8), (.ref ad320), (.ref ad310), (.int (2 : Int32)), (.ref b370)])) _
            exact k
          obtain ⟨_, _, ⟨T380, L380, k380, n380⟩, -, X380, ⟨Lc380, hQ380, l380, y380, z380⟩, st380⟩ := Jvm.LawKit.callS X379 hx (y := (⟨"com/example/utu/utu/SlotNumbersToArrayPinLaw", "entryOk", "([II[I[ZZI)Z"⟩ : MethodName)) hown (mvT hZ (hw _ (List.mem_of_getElem? (i := 100) rfl))) (mvT hZ (hw _ (List.mem_of_getElem? (i := 101) rfl))) (mvT hZ (hw _ (List.mem_of_getElem? (i := 2) rfl))) (mvT hZ (hw _ (List.mem_of_getElem? (i := 102) rfl))) (by decide) (backOf (W := 0) (rm20 l Z a0 hw [] b370 (2 : Int32) ad310 ad320 w8 rm sj3 ar370 (own_ex w1 w2 w3 w4) (own_on w5 w6) T370.heap n0 Z370 ab370 f371 f372 (by decide)) hZ (hw _ (List.mem_of_getElem? (i := 102) rfl)) (hw _ (List.mem_of_getElem? (i := 2) rfl)) (by decide) (by decide)) (g := (mkF m 297 #[.val (.int p1), .val (.int p2), .val (.int p3), .val (.int p4), .val (.int p5), .val (.int p6), .val (.int w1), .val (.int w2), .val (.int w3), .val (.int w4), .val (.int w5), .val (.int w6), .val (.int w7), .val (.int w8), .val (.int rm), .val (.ref ad310), .val (.ref ad320), .val (.ref ad336), .val (.ref b370), .val (.int sj3)] [(.int rm), (.int w8), (.ref ad320), (.ref ad310), (.int (2 : Int32)), (.ref b370)])) rfl (by rw [hml]; rfl) (argsL := [(.ref b370), (.int (2 : Int32)), (.ref ad310), (.ref ad320), (.int w8), (.int rm)]) (rest := []) (lenOf pd_20 rfl) rfl (by show 2 * 0 + _ ≤ _; exact Nat.le_of_eq rfl) (hb hby at_297) (fun _ _ => ⟨rfl, eh379, (by dsimp only [Pt.cells]; decide), (by dsimp only [Pt.slots]; decide)⟩)
          dsimp only [Pt.U, Pt.locs, Pt.cells, Pt.slots] at X380 l380 y380 z380 st380 hQ380
          subst l380 y380 z380
          obtain ⟨rfl, Nc380, hp380⟩ := hQ380
          have N380 := Fr.app N379 Nc380
          refine OwnWp.step st380 ?_
          have eh380 : T380.heap = T370.heap := hp380
          show OwnWp p e below s _ _ _ (T380.setTop (mkF m 300 #[.val (.int p1), .val (.int p2), .val (.int p3), .val (.int p4), .val (.int p5), .val (.int p6), .val (.int w1), .val (.int w2), .val (.int w3), .val (.int w4), .val (.int w5), .val (.int w6), .val (.int w7), .val (.int w8), .val (.int rm), .val (.ref ad310), .val (.ref ad320), .val (.ref ad336), .val (.ref b370), .val (.int sj3)] [(.int (own_entry sj3 ar370 (2 : Int32) (own_ex w1 w2 w3 w4) (own_on w5 w6) w8 rm))]))
          rw [own_entry1 hA370 mj3 (2 : Int32) (by decide)]
          show OwnWp p e below s _ _ _ (T380.setTop (mkF m 300 #[.val (.int p1), .val (.int p2), .val (.int p3), .val (.int p4), .val (.int p5), .val (.int p6), .val (.int w1), .val (.int w2), .val (.int w3), .val (.int w4), .val (.int w5), .val (.int w6), .val (.int w7), .val (.int w8), .val (.int rm), .val (.ref ad310), .val (.ref ad320), .val (.ref ad336), .val (.ref b370), .val (.int sj3)] [(.int (1 : Int32))]))
          refine OwnWp.step (U' := T380.setTop (mkF m 314 #[.val (.int p1), .val (.int p2), .val (.int p3), .val (.int p4), .val (.int p5), .val (.int p6), .val (.int w1), .val (.int w2), .val (.int w3), .val (.int w4), .val (.int w5), .val (.int w6), .val (.int w7), .val (.int w8), .val (.int rm), .val (.ref ad310), .val (.ref ad320), .val (.ref ad336), .val (.ref b370), .val (.int sj3)] [(.int rm), (.int w8), (.ref ad320), (.ref ad310), (.int (3 : Int32)), (.ref b370)])) (fun t k => ?_) ?_
          · show Steps p.tables e below (T380.setTop (mkF m 300 #[.val (.int p1), .val (.int p2), .val (.int p3), .val (.int p4), .val (.int p5), .val (.int p6), .val (.int w1), .val (.int w2), .val (.int w3), .val (.int w4), .val (.int w5), .val (.int w6), .val (.int w7), .val (.int w8), .val (.int rm), .val (.ref ad310), .val (.ref ad320), .val (.ref ad336), .val (.ref b370), .val (.int sj3)] [(.int (1 : Int32))])) _
            refine XS.ifNo X380.here hx rfl (hb hby at_300) rfl (XT.i0_eq_f (by decide)) ?_
            show Steps p.tables e below (T380.setTop (mkF m 303 #[.val (.int p1), .val (.int p2), .val (.int p3), .val (.int p4), .val (.int p5), .val (.int p6), .val (.int w1), .val (.int w2), .val (.int w3), .val (.int w4), .val (.int w5), .val (.int w6), .val (.int w7), .val (.int w8), .val (.int rm), .val (.ref ad310), .val (.ref ad320), .val (.ref ad336), .val (.ref b370), .val (.int sj3)] [])) _
            refine XS.aload X380.here hx rfl (hb hby at_303) rfl rfl ?_
            show Steps p.tables e below (T380.setTop (mkF m 305 #[.val (.int p1), .val (.int p2), .val (.int p3), .val (.int p4), .val (.int p5), .val (.int p6), .val (.int w1), .val (.int w2), .val (.int w3), .val (.int w4), .val (.int w5), .val (.int w6), .val (.int w7), .val (.int w8), .val (.int rm), .val (.ref ad310), .val (.ref ad320), .val (.ref ad336), .val (.ref b370), .val (.int sj3)] [(.ref b370)])) _
            refine XT.iconstV X380.here hx rfl (3 : Int32) (hb hby at_305) rfl ?_
            show Steps p.tables e below (T380.setTop (mkF m 306 #[.val (.int p1), .val (.int p2), .val (.int p3), .val (.int p4), .val (.int p5), .val (.int p6), .val (.int w1), .val (.int w2), .val (.int w3), .val (.int w4), .val (.int w5), .val (.int w6), .val (.int w7), .val (.int w8), .val (.int rm), .val (.ref ad310), .val (.ref ad320), .val (.ref ad336), .val (.ref b370), .val (.int sj3)] [(.int (3 : Int32)), (.ref b370)])) _
            refine XS.aload X380.here hx rfl (hb hby at_306) rfl rfl ?_
            show Steps p.tables e below (T380.setTop (mkF m 308 #[.val (.int p1), .val (.int p2), .val (.int p3), .val (.int p4), .val (.int p5), .val (.int p6), .val (.int w1), .val (.int w2), .val (.int w3), .val (.int w4), .val (.int w5), .val (.int w6), .val (.int w7), .val (.int w8), .val (.int rm), .val (.ref ad310), .val (.ref ad320), .val (.ref ad336), .val (.ref b370), .val (.int sj3)] [(.ref ad310), (.int (3 : Int32)), (.ref b370)])) _
            refine XS.aload X380.here hx rfl (hb hby at_308) rfl rfl ?_
            show Steps p.tables e below (T380.setTop (mkF m 310 #[.val (.int p1), .val (.int p2), .val (.int p3), .val (.int p4), .val (.int p5), .val (.int p6), .val (.int w1), .val (.int w2), .val (.int w3), .val (.int w4), .val (.int w5), .val (.int w6), .val (.int w7), .val (.int w8), .val (.int rm), .val (.ref ad310), .val (.ref ad320), .val (.ref ad336), .val (.ref b370), .val (.int sj3)] [(.ref ad320), (.ref ad310), (.int (3 : Int32)), (.ref b370)])) _
            refine XS.iload X380.here hx rfl (hb hby at_310) rfl ?_
            show Steps p.tables e below (T380.setTop (mkF m 312 #[.val (.int p1), .val (.int p2), .val (.int p3), .val (.int p4), .val (.int p5), .val (.int p6), .val (.int w1), .val (.int w2), .val (.int w3), .val (.int w4), .val (.int w5), .val (.int w6), .val (.int w7), .val (.int w8), .val (.int rm), .val (.ref ad310), .val (.ref ad320), .val (.ref ad336), .val (.ref b370), .val (.int sj3)] [(.int w8), (.ref ad320), (.ref ad310), (.int (3 : Int32)), (.ref b370)])) _
            refine XS.iload X380.here hx rfl (hb hby at_312) rfl ?_
            show Steps p.tables e below (T380.setTop (mkF m 314 #[.val (.int p1), .val (.int p2), .val (.int p3), .val (.int p4), .val (.int p5), .val (.int p6), .val (.int w1), .val (.int w2), .val (.int w3), .val (.int w4), .val (.int w5), .val (.int w6), .val (.int w7), .val (.int w8), .val (.int rm), .val (.ref ad310), .val (.ref ad320), .val (.ref ad336), .val (.ref b370), .val (.int sj3)] [(.int rm), (.int w8), (.ref ad320), (.ref ad310), (.int (3 : Int32)), (.ref b370)])) _
            exact k
          obtain ⟨_, _, ⟨T381, L381, k381, n381⟩, -, X381, ⟨Lc381, hQ381, l381, y381, z381⟩, st381⟩ := Jvm.LawKit.callS X380 hx (y := (⟨"com/example/utu/utu/SlotNumbersToArrayPinLaw", "entryOk", "([II[I[ZZI)Z"⟩ : MethodName)) hown (mvT hZ (hw _ (List.mem_of_getElem? (i := 100) rfl))) (mvT hZ (hw _ (List.mem_of_getElem? (i := 101) rfl))) (mvT hZ (hw _ (List.mem_of_getElem? (i := 2) rfl))) (mvT hZ (hw _ (List.mem_of_getElem? (i := 102) rfl))) (by decide) (backOf (W := 0) (rm20 l Z a0 hw [] b370 (3 : Int32) ad310 ad320 w8 rm sj3 ar370 (own_ex w1 w2 w3 w4) (own_on w5 w6) T370.heap n0 Z370 ab370 f371 f372 (by decide)) hZ (hw _ (List.mem_of_getElem? (i := 102) rfl)) (hw _ (List.mem_of_getElem? (i := 2) rfl)) (by decide) (by decide)) (g := (mkF m 314 #[.val (.int p1), .val (.int p2), .val (.int p3), .val (.int p4), .val (.int p5), .val (.int p6), .val (.int w1), .val (.int w2), .val (.int w3), .val (.int w4), .val (.int w5), .val (.int w6), .val (.int w7), .val (.int w8), .val (.int rm), .val (.ref ad310), .val (.ref ad320), .val (.ref ad336), .val (.ref b370), .val (.int sj3)] [(.int rm), (.int w8), (.ref ad320), (.ref ad310), (.int (3 : Int32)), (.ref b370)])) rfl (by rw [hml]; rfl) (argsL := [(.ref b370), (.int (3 : Int32)), (.ref ad310), (.ref ad320), (.int w8), (.int rm)]) (rest := []) (lenOf pd_20 rfl) rfl (by show 2 * 0 + _ ≤ _; exact Nat.le_of_eq rfl) (hb hby at_314) (fun _ _ => ⟨rfl, eh380, (by dsimp only [Pt.cells]; decide), (by dsimp only [Pt.slots]; decide)⟩)
          dsimp only [Pt.U, Pt.locs, Pt.cells, Pt.slots] at X381 l381 y381 z381 st381 hQ381
          subst l381 y381 z381
          obtain ⟨rfl, Nc381, hp381⟩ := hQ381
          have N381 := Fr.app N380 Nc381
          refine OwnWp.step st381 ?_
          have eh381 : T381.heap = T370.heap := hp381
          show OwnWp p e below s _ _ _ (T381.setTop (mkF m 317 #[.val (.int p1), .val (.int p2), .val (.int p3), .val (.int p4), .val (.int p5), .val (.int p6), .val (.int w1), .val (.int w2), .val (.int w3), .val (.int w4), .val (.int w5), .val (.int w6), .val (.int w7), .val (.int w8), .val (.int rm), .val (.ref ad310), .val (.ref ad320), .val (.ref ad336), .val (.ref b370), .val (.int sj3)] [(.int (own_entry sj3 ar370 (3 : Int32) (own_ex w1 w2 w3 w4) (own_on w5 w6) w8 rm))]))
          rw [own_entry1 hA370 mj3 (3 : Int32) (by decide)]
          show OwnWp p e below s _ _ _ (T381.setTop (mkF m 317 #[.val (.int p1), .val (.int p2), .val (.int p3), .val (.int p4), .val (.int p5), .val (.int p6), .val (.int w1), .val (.int w2), .val (.int w3), .val (.int w4), .val (.int w5), .val (.int w6), .val (.int w7), .val (.int w8), .val (.int rm), .val (.ref ad310), .val (.ref ad320), .val (.ref ad336), .val (.ref b370), .val (.int sj3)] [(.int (1 : Int32))]))
          refine OwnWp.step (U' := T381.setTop (mkF m 324 #[.val (.int p1), .val (.int p2), .val (.int p3), .val (.int p4), .val (.int p5), .val (.int p6), .val (.int w1), .val (.int w2), .val (.int w3), .val (.int w4), .val (.int w5), .val (.int w6), .val (.int w7), .val (.int w8), .val (.int rm), .val (.ref ad310), .val (.ref ad320), .val (.ref ad336), .val (.ref b370), .val (.int sj3)] [(.int (1 : Int32)), (.int (0 : Int32)), (.ref b370)])) (fun t k => ?_) ?_
          · show Steps p.tables e below (T381.setTop (mkF m 317 #[.val (.int p1), .val (.int p2), .val (.int p3), .val (.int p4), .val (.int p5), .val (.int p6), .val (.int w1), .val (.int w2), .val (.int w3), .val (.int w4), .val (.int w5), .val (.int w6), .val (.int w7), .val (.int w8), .val (.int rm), .val (.ref ad310), .val (.ref ad320), .val (.ref ad336), .val (.ref b370), .val (.int sj3)] [(.int (1 : Int32))])) _
            refine XS.ifNo X381.here hx rfl (hb hby at_317) rfl (XT.i0_eq_f (by decide)) ?_
            show Steps p.tables e below (T381.setTop (mkF m 320 #[.val (.int p1), .val (.int p2), .val (.int p3), .val (.int p4), .val (.int p5), .val (.int p6), .val (.int w1), .val (.int w2), .val (.int w3), .val (.int w4), .val (.int w5), .val (.int w6), .val (.int w7), .val (.int w8), .val (.int rm), .val (.ref ad310), .val (.ref ad320), .val (.ref ad336), .val (.ref b370), .val (.int sj3)] [])) _
            refine XS.aload X381.here hx rfl (hb hby at_320) rfl rfl ?_
            show Steps p.tables e below (T381.setTop (mkF m 322 #[.val (.int p1), .val (.int p2), .val (.int p3), .val (.int p4), .val (.int p5), .val (.int p6), .val (.int w1), .val (.int w2), .val (.int w3), .val (.int w4), .val (.int w5), .val (.int w6), .val (.int w7), .val (.int w8), .val (.int rm), .val (.ref ad310), .val (.ref ad320), .val (.ref ad336), .val (.ref b370), .val (.int sj3)] [(.ref b370)])) _
            refine XT.iconstV X381.here hx rfl (0 : Int32) (hb hby at_322) rfl ?_
            show Steps p.tables e below (T381.setTop (mkF m 323 #[.val (.int p1), .val (.int p2), .val (.int p3), .val (.int p4), .val (.int p5), .val (.int p6), .val (.int w1), .val (.int w2), .val (.int w3), .val (.int w4), .val (.int w5), .val (.int w6), .val (.int w7), .val (.int w8), .val (.int rm), .val (.ref ad310), .val (.ref ad320), .val (.ref ad336), .val (.ref b370), .val (.int sj3)] [(.int (0 : Int32)), (.ref b370)])) _
            refine XT.iconstV X381.here hx rfl (1 : Int32) (hb hby at_323) rfl ?_
            show Steps p.tables e below (T381.setTop (mkF m 324 #[.val (.int p1), .val (.int p2), .val (.int p3), .val (.int p4), .val (.int p5), .val (.int p6), .val (.int w1), .val (.int w2), .val (.int w3), .val (.int w4), .val (.int w5), .val (.int w6), .val (.int w7), .val (.int w8), .val (.int rm), .val (.ref ad310), .val (.ref ad320), .val (.ref ad336), .val (.ref b370), .val (.int sj3)] [(.int (1 : Int32)), (.int (0 : Int32)), (.ref b370)])) _
            exact k
          obtain ⟨_, _, ⟨T382, L382, k382, n382⟩, -, X382, ⟨Lc382, hQ382, l382, y382, z382⟩, st382⟩ := Jvm.LawKit.callS X381 hx (y := (⟨"com/example/utu/utu/SlotNumbersToArrayPinLaw", "apart", "([III)Z"⟩ : MethodName)) hown (mvT hZ (hw _ (List.mem_of_getElem? (i := 106) rfl))) (mvT hZ (hw _ (List.mem_of_getElem? (i := 107) rfl))) (mvT hZ (hw _ (List.mem_of_getElem? (i := 2) rfl))) (mvT hZ (hw _ (List.mem_of_getElem? (i := 108) rfl))) (by decide) (backOf (W := 0) (rm22 l Z a0 hw [] b370 (0 : Int32) (1 : Int32) sj3 ar370 T370.heap n0 Z370 ab370 (by decide) (by decide)) hZ (hw _ (List.mem_of_getElem? (i := 108) rfl)) (hw _ (List.mem_of_getElem? (i := 2) rfl)) (by decide) (by decide)) (g := (mkF m 324 #[.val (.int p1), .val (.int p2), .val (.int p3), .val (.int p4), .val (.int p5), .val (.int p6), .val (.int w1), .val (.int w2), .val (.int w3), .val (.int w4), .val (.int w5), .val (.int w6), .val (.int w7), .val (.int w8), .val (.int rm), .val (.ref ad310), .val (.ref ad320), .val (.ref ad336), .val (.ref b370), .val (.int sj3)] [(.int (1 : Int32)), (.int (0 : Int32)), (.ref b370)])) rfl (by rw [hml]; rfl) (argsL := [(.ref b370), (.int (0 : Int32)), (.int (1 : Int32))]) (rest := []) (lenOf pd_22 rfl) rfl (by show 2 * 0 + _ ≤ _; exact Nat.le_of_eq rfl) (hb hby at_324) (fun _ _ => ⟨rfl, eh381, (by dsimp only [Pt.cells]; decide), (by dsimp only [Pt.slots]; decide)⟩)
          dsimp only [Pt.U, Pt.locs, Pt.cells, Pt.slots] at X382 l382 y382 z382 st382 hQ382
          subst l382 y382 z382
          obtain ⟨rfl, Nc382, hp382⟩ := hQ382
          have N382 := Fr.app N381 Nc382
          refine OwnWp.step st382 ?_
          have eh382 : T382.heap = T370.heap := hp382
          show OwnWp p e below s _ _ _ (T382.setTop (mkF m 327 #[.val (.int p1), .val (.int p2), .val (.int p3), .val (.int p4), .val (.int p5), .val (.int p6), .val (.int w1), .val (.int w2), .val (.int w3), .val (.int w4), .val (.int w5), .val (.int w6), .val (.int w7), .val (.int w8), .val (.int rm), .val (.ref ad310), .val (.ref ad320), .val (.ref ad336), .val (.ref b370), .val (.int sj3)] [(.int (own_apart sj3 ar370 (0 : Int32) (1 : Int32)))]))
          rw [own_apart1 hA370 ij3 (0 : Int32) (1 : Int32) (by decide) (by decide)]
          show OwnWp p e below s _ _ _ (T382.setTop (mkF m 327 #[.val (.int p1), .val (.int p2), .val (.int p3), .val (.int p4), .val (.int p5), .val (.int p6), .val (.int w1), .val (.int w2), .val (.int w3), .val (.int w4), .val (.int w5), .val (.int w6), .val (.int w7), .val (.int w8), .val (.int rm), .val (.ref ad310), .val (.ref ad320), .val (.ref ad336), .val (.ref b370), .val (.int sj3)] [(.int (1 : Int32))]))
          refine OwnWp.step (U' := T382.setTop (mkF m 334 #[.val (.int p1), .val (.int p2), .val (.int p3), .val (.int p4), .val (.int p5), .val (.int p6), .val (.int w1), .val (.int w2), .val (.int w3), .val (.int w4), .val (.int w5), .val (.int w6), .val (.int w7), .val (.int w8), .val (.int rm), .val (.ref ad310), .val (.ref ad320), .val (.ref ad336), .val (.ref b370), .val (.int sj3)] [(.int (2 : Int32)), (.int (0 : Int32)), (.ref b370)])) (fun t k => ?_) ?_
          · show Steps p.tables e below (T382.setTop (mkF m 327 #[.val (.int p1), .val (.int p2), .val (.int p3), .val (.int p4), .val (.int p5), .val (.int p6), .val (.int w1), .val (.int w2), .val (.int w3), .val (.int w4), .val (.int w5), .val (.int w6), .val (.int w7), .val (.int w8), .val (.int rm), .val (.ref ad310), .val (.ref ad320), .val (.ref ad336), .val (.ref b370), .val (.int sj3)] [(.int (1 : Int32))])) _
            refine XS.ifNo X382.here hx rfl (hb hby at_327) rfl (XT.i0_eq_f (by decide)) ?_
            show Steps p.tables e below (T382.setTop (mkF m 330 #[.val (.int p1), .val (.int p2), .val (.int p3), .val (.int p4), .val (.int p5), .val (.int p6), .val (.int w1), .val (.int w2), .val (.int w3), .val (.int w4), .val (.int w5), .val (.int w6), .val (.int w7), .val (.int w8), .val (.int rm), .val (.ref ad310), .val (.ref ad320), .val (.ref ad336), .val (.ref b370), .val (.int sj3)] [])) _
            refine XS.aload X382.here hx rfl (hb hby at_330) rfl rfl ?_
            show Steps p.tables e below (T382.setTop (mkF m 332 #[.val (.int p1), .val (.int p2), .val (.int p3), .val (.int p4), .val (.int p5), .val (.int p6), .val (.int w1), .val (.int w2), .val (.int w3), .val (.int w4), .val (.int w5), .val (.int w6), .val (.int w7), .val (.int w8), .val (.int rm), .val (.ref ad310), .val (.ref ad320), .val (.ref ad336), .val (.ref b370), .val (.int sj3)] [(.ref b370)])) _
            refine XT.iconstV X382.here hx rfl (0 : Int32) (hb hby at_332) rfl ?_
            show Steps p.tables e below (T382.setTop (mkF m 333 #[.val (.int p1), .val (.int p2), .val (.int p3), .val (.int p4), .val (.int p5), .val (.int p6), .val (.int w1), .val (.int w2), .val (.int w3), .val (.int w4), .val (.int w5), .val (.int w6), .val (.int w7), .val (.int w8), .val (.int rm), .val (.ref ad310), .val (.ref ad320), .val (.ref ad336), .val (.ref b370), .val (.int sj3)] [(.int (0 : Int32)), (.ref b370)])) _
            refine XT.iconstV X382.here hx rfl (2 : Int32) (hb hby at_333) rfl ?_
            show Steps p.tables e below (T382.setTop (mkF m 334 #[.val (.int p1), .val (.int p2), .val (.int p3), .val (.int p4), .val (.int p5), .val (.int p6), .val (.int w1), .val (.int w2), .val (.int w3), .val (.int w4), .val (.int w5), .val (.int w6), .val (.int w7), .val (.int w8), .val (.int rm), .val (.ref ad310), .val (.ref ad320), .val (.ref ad336), .val (.ref b370), .val (.int sj3)] [(.int (2 : Int32)), (.int (0 : Int32)), (.ref b370)])) _
            exact k
          obtain ⟨_, _, ⟨T383, L383, k383, n383⟩, -, X383, ⟨Lc383, hQ383, l383, y383, z383⟩, st383⟩ := Jvm.LawKit.callS X382 hx (y := (⟨"com/example/utu/utu/SlotNumbersToArrayPinLaw", "apart", "([III)Z"⟩ : MethodName)) hown (mvT hZ (hw _ (List.mem_of_getElem? (i := 106) rfl))) (mvT hZ (hw _ (List.mem_of_getElem? (i := 107) rfl))) (mvT hZ (hw _ (List.mem_of_getElem? (i := 2) rfl))) (mvT hZ (hw _ (List.mem_of_getElem? (i := 108) rfl))) (by decide) (backOf (W := 0) (rm22 l Z a0 hw [] b370 (0 : Int32) (2 : Int32) sj3 ar370 T370.heap n0 Z370 ab370 (by decide) (by decide)) hZ (hw _ (List.mem_of_getElem? (i := 108) rfl)) (hw _ (List.mem_of_getElem? (i := 2) rfl)) (by decide) (by decide)) (g := (mkF m 334 #[.val (.int p1), .val (.int p2), .val (.int p3), .val (.int p4), .val (.int p5), .val (.int p6), .val (.int w1), .val (.int w2), .val (.int w3), .val (.int w4), .val (.int w5), .val (.int w6), .val (.int w7), .val (.int w8), .val (.int rm), .val (.ref ad310), .val (.ref ad320), .val (.ref ad336), .val (.ref b370), .val (.int sj3)] [(.int (2 : Int32)), (.int (0 : Int32)), (.ref b370)])) rfl (by rw [hml]; rfl) (argsL := [(.ref b370), (.int (0 : Int32)), (.int (2 : Int32))]) (rest := []) (lenOf pd_22 rfl) rfl (by show 2 * 0 + _ ≤ _; exact Nat.le_of_eq rfl) (hb hby at_334) (fun _ _ => ⟨rfl, eh382, (by dsimp only [Pt.cells]; decide), (by dsimp only [Pt.slots]; decide)⟩)
          dsimp only [Pt.U, Pt.locs, Pt.cells, Pt.slots] at X383 l383 y383 z383 st383 hQ383
          subst l383 y383 z383
          obtain ⟨rfl, Nc383, hp383⟩ := hQ383
          have N383 := Fr.app N382 Nc383
          refine OwnWp.step st383 ?_
          have eh383 : T383.heap = T370.heap := hp383
          show OwnWp p e below s _ _ _ (T383.setTop (mkF m 337 #[.val (.int p1), .val (.int p2), .val (.int p3), .val (.int p4), .val (.int p5), .val (.int p6), .val (.int w1), .val (.int w2), .val (.int w3), .val (.int w4), .val (.int w5), .val (.int w6), .val (.int w7), .val (.int w8), .val (.int rm), .val (.ref ad310), .val (.ref ad320), .val (.ref ad336), .val (.ref b370), .val (.int sj3)] [(.int (own_apart sj3 ar370 (0 : Int32) (2 : Int32)))]))
          rw [own_apart1 hA370 ij3 (0 : Int32) (2 : Int32) (by decide) (by decide)]
          show OwnWp p e below s _ _ _ (T383.setTop (mkF m 337 #[.val (.int p1), .val (.int p2), .val (.int p3), .val (.int p4), .val (.int p5), .val (.int p6), .val (.int w1), .val (.int w2), .val (.int w3), .val (.int w4), .val (.int w5), .val (.int w6), .val (.int w7), .val (.int w8), .val (.int rm), .val (.ref ad310), .val (.ref ad320), .val (.ref ad336), .val (.ref b370), .val (.int sj3)] [(.int (1 : Int32))]))
          refine OwnWp.step (U' := T383.setTop (mkF m 344 #[.val (.int p1), .val (.int p2), .val (.int p3), .val (.int p4), .val (.int p5), .val (.int p6), .val (.int w1), .val (.int w2), .val (.int w3), .val (.int w4), .val (.int w5), .val (.int w6), .val (.int w7), .val (.int w8), .val (.int rm), .val (.ref ad310), .val (.ref ad320), .val (.ref ad336), .val (.ref b370), .val (.int sj3)] [(.int (3 : Int32)), (.int (0 : Int32)), (.ref b370)])) (fun t k => ?_) ?_
          · show Steps p.tables e below (T383.setTop (mkF m 337 #[.val (.int p1), .val (.int p2), .val (.int p3), .val (.int p4), .val (.int p5), .val (.int p6), .val (.int w1), .val (.int w2), .val (.int w3), .val (.int w4), .val (.int w5), .val (.int w6), .val (.int w7), .val (.int w8), .val (.int rm), .val (.ref ad310), .val (.ref ad320), .val (.ref ad336), .val (.ref b370), .val (.int sj3)] [(.int (1 : Int32))])) _
            refine XS.ifNo X383.here hx rfl (hb hby at_337) rfl (XT.i0_eq_f (by decide)) ?_
            show Steps p.tables e below (T383.setTop (mkF m 340 #[.val (.int p1), .val (.int p2), .val (.int p3), .val (.int p4), .val (.int p5), .val (.int p6), .val (.int w1), .val (.int w2), .val (.int w3), .val (.int w4), .val (.int w5), .val (.int w6), .val (.int w7), .val (.int w8), .val (.int rm), .val (.ref ad310), .val (.ref ad320), .val (.ref ad336), .val (.ref b370), .val (.int sj3)] [])) _
            refine XS.aload X383.here hx rfl (hb hby at_340) rfl rfl ?_
            show Steps p.tables e below (T383.setTop (mkF m 342 #[.val (.int p1), .val (.int p2), .val (.int p3), .val (.int p4), .val (.int p5), .val (.int p6), .val (.int w1), .val (.int w2), .val (.int w3), .val (.int w4), .val (.int w5), .val (.int w6), .val (.int w7), .val (.int w8), .val (.int rm), .val (.ref ad310), .val (.ref ad320), .val (.ref ad336), .val (.ref b370), .val (.int sj3)] [(.ref b370)])) _
            refine XT.iconstV X383.here hx rfl (0 : Int32) (hb hby at_342) rfl ?_
            show Steps p.tables e below (T383.setTop (mkF m 343 #[.val (.int p1), .val (.int p2), .val (.int p3), .val (.int p4), .val (.int p5), .val (.int p6), .val (.int w1), .val (.int w2), .val (.int w3), .val (.int w4), .val (.int w5), .val (.int w6), .val (.int w7), .val (.int w8), .val (.int rm), .val (.ref ad310), .val (.ref ad320), .val (.ref ad336), .val (.ref b370), .val (.int sj3)] [(.int (0 : Int32)), (.ref b370)])) _
            refine XT.iconstV X383.here hx rfl (3 : Int32) (hb hby at_343) rfl ?_
            show Steps p.tables e below (T383.setTop (mkF m 344 #[.val (.int p1), .val (.int p2), .val (.int p3), .val (.int p4), .val (.int p5), .val (.int p6), .val (.int w1), .val (.int w2), .val (.int w3), .val (.int w4), .val (.int w5), .val (.int w6), .val (.int w7), .val (.int w8), .val (.int rm), .val (.ref ad310), .val (.ref ad320), .val (.ref ad336), .val (.ref b370), .val (.int sj3)] [(.int (3 : Int32)), (.int (0 : Int32)), (.ref b370)])) _
            exact k
          obtain ⟨_, _, ⟨T384, L384, k384, n384⟩, -, X384, ⟨Lc384, hQ384, l384, y384, z384⟩, st384⟩ := Jvm.LawKit.callS X383 hx (y := (⟨"com/example/utu/utu/SlotNumbersToArrayPinLaw", "apart", "([III)Z"⟩ : MethodName)) hown (mvT hZ (hw _ (List.mem_of_getElem? (i := 106) rfl))) (mvT hZ (hw _ (List.mem_of_getElem? (i := 107) rfl))) (mvT hZ (hw _ (List.mem_of_getElem? (i := 2) rfl))) (mvT hZ (hw _ (List.mem_of_getElem? (i := 108) rfl))) (by decide) (backOf (W := 0) (rm22 l Z a0 hw [] b370 (0 : Int32) (3 : Int32) sj3 ar370 T370.heap n0 Z370 ab370 (by decide) (by decide)) hZ (hw _ (List.mem_of_getElem? (i := 108) rfl)) (hw _ (List.mem_of_getElem? (i := 2) rfl)) (by decide) (by decide)) (g := (mkF m 344 #[.val (.int p1), .val (.int p2), .val (.int p3), .val (.int p4), .val (.int p5), .val (.int p6), .val (.int w1), .val (.int w2), .val (.int w3), .val (.int w4), .val (.int w5), .val (.int w6), .val (.int w7), .val (.int w8), .val (.int rm), .val (.ref ad310), .val (.ref ad320), .val (.ref ad336), .val (.ref b370), .val (.int sj3)] [(.int (3 : Int32)), (.int (0 : Int32)), (.ref b370)])) rfl (by rw [hml]; rfl) (argsL := [(.ref b370), (.int (0 : Int32)), (.int (3 : Int32))]) (rest := []) (lenOf pd_22 rfl) rfl (by show 2 * 0 + _ ≤ _; exact Nat.le_of_eq rfl) (hb hby at_344) (fun _ _ => ⟨rfl, eh383, (by dsimp only [Pt.cells]; decide), (by dsimp only [Pt.slots]; decide)⟩)
          dsimp only [Pt.U, Pt.locs, Pt.cells, Pt.slots] at X384 l384 y384 z384 st384 hQ384
          subst l384 y384 z384
          obtain ⟨rfl, Nc384, hp384⟩ := hQ384
          have N384 := Fr.app N383 Nc384
          refine OwnWp.step st384 ?_
          have eh384 : T384.heap = T370.heap := hp384
          show OwnWp p e below s _ _ _ (T384.setTop (mkF m 347 #[.val (.int p1), .val (.int p2), .val (.int p3), .val (.int p4), .val (.int p5), .val (.int p6), .val (.int w1), .val (.int w2), .val (.int w3), .val (.int w4), .val (.int w5), .val (.int w6), .val (.int w7), .val (.int w8), .val (.int rm), .val (.ref ad310), .val (.ref ad320), .val (.ref ad336), .val (.ref b370), .val (.int sj3)] [(.int (own_apart sj3 ar370 (0 : Int32) (3 : Int32)))]))
          rw [own_apart1 hA370 ij3 (0 : Int32) (3 : Int32) (by decide) (by decide)]
          show OwnWp p e below s _ _ _ (T384.setTop (mkF m 347 #[.val (.int p1), .val (.int p2), .val (.int p3), .val (.int p4), .val (.int p5), .val (.int p6), .val (.int w1), .val (.int w2), .val (.int w3), .val (.int w4), .val (.int w5), .val (.int w6), .val (.int w7), .val (.int w8), .val (.int rm), .val (.ref ad310), .val (.ref ad320), .val (.ref ad336), .val (.ref b370), .val (.int sj3)] [(.int (1 : Int32))]))
          refine OwnWp.step (U' := T384.setTop (mkF m 354 #[.val (.int p1), .val (.int p2), .val (.int p3), .val (.int p4), .val (.int p5), .val (.int p6), .val (.int w1), .val (.int w2), .val (.int w3), .val (.int w4), .val (.int w5), .val (.int w6), .val (.int w7), .val (.int w8), .val (.int rm), .val (.ref ad310), .val (.ref ad320), .val (.ref ad336), .val (.ref b370), .val (.int sj3)] [(.int (2 : Int32)), (.int (1 : Int32)), (.ref b370)])) (fun t k => ?_) ?_
          · show Steps p.tables e below (T384.setTop (mkF m 347 #[.val (.int p1), .val (.int p2), .val (.int p3), .val (.int p4), .val (.int p5), .val (.int p6), .val (.int w1), .val (.int w2), .val (.int w3), .val (.int w4), .val (.int w5), .val (.int w6), .val (.int w7), .val (.int w8), .val (.int rm), .val (.ref ad310), .val (.ref ad320), .val (.ref ad336), .val (.ref b370), .val (.int sj3)] [(.int (1 : Int32))])) _
            refine XS.ifNo X384.here hx rfl (hb hby at_347) rfl (XT.i0_eq_f (by decide)) ?_
            show Steps p.tables e below (T384.setTop (mkF m 350 #[.val (.int p1), .val (.int p2), .val (.int p3), .val (.int p4), .val (.int p5), .val (.int p6), .val (.int w1), .val (.int w2), .val (.int w3), .val (.int w4), .val (.int w5), .val (.int w6), .val (.int w7), .val (.int w8), .val (.int rm), .val (.ref ad310), .val (.ref ad320), .val (.ref ad336), .val (.ref b370), .val (.int sj3)] [])) _
            refine XS.aload X384.here hx rfl (hb hby at_350) rfl rfl ?_
            show Steps p.tables e below (T384.setTop (mkF m 352 #[.val (.int p1), .val (.int p2), .val (.int p3), .val (.int p4), .val (.int p5), .val (.int p6), .val (.int w1), .val (.int w2), .val (.int w3), .val (.int w4), .val (.int w5), .val (.int w6), .val (.int w7), .val (.int w8), .val (.int rm), .val (.ref ad310), .val (.ref ad320), .val (.ref ad336), .val (.ref b370), .val (.int sj3)] [(.ref b370)])) _
            refine XT.iconstV X384.here hx rfl (1 : Int32) (hb hby at_352) rfl ?_
            show Steps p.tables e below (T384.setTop (mkF m 353 #[.val (.int p1), .val (.int p2), .val (.int p3), .val (.int p4), .val (.int p5), .val (.int p6), .val (.int w1), .val (.int w2), .val (.int w3), .val (.int w4), .val (.int w5), .val (.int w6), .val (.int w7), .val (.int w8), .val (.int rm), .val (.ref ad310), .val (.ref ad320), .val (.ref ad336), .val (.ref b370), .val (.int sj3)] [(.int (1 : Int32)), (.ref b370)])) _
            refine XT.iconstV X384.here hx rfl (2 : Int32) (hb hby at_353) rfl ?_
            show Steps p.tables e below (T384.setTop (mkF m 354 #[.val (.int p1), .val (.int p2), .val (.int p3), .val (.int p4), .val (.int p5), .val (.int p6), .val (.int w1), .val (.int w2), .val (.int w3), .val (.int w4), .val (.int w5), .val (.int w6), .val (.int w7), .val (.int w8), .val (.int rm), .val (.ref ad310), .val (.ref ad320), .val (.ref ad336), .val (.ref b370), .val (.int sj3)] [(.int (2 : Int32)), (.int (1 : Int32)), (.ref b370)])) _
            exact k
          obtain ⟨_, _, ⟨T385, L385, k385, n385⟩, -, X385, ⟨Lc385, hQ385, l385, y385, z385⟩, st385⟩ := Jvm.LawKit.callS X384 hx (y := (⟨"com/example/utu/utu/SlotNumbersToArrayPinLaw", "apart", "([III)Z"⟩ : MethodName)) hown (mvT hZ (hw _ (List.mem_of_getElem? (i := 106) rfl))) (mvT hZ (hw _ (List.mem_of_getElem? (i := 107) rfl))) (mvT hZ (hw _ (List.mem_of_getElem? (i := 2) rfl))) (mvT hZ (hw _ (List.mem_of_getElem? (i := 108) rfl))) (by decide) (backOf (W := 0) (rm22 l Z a0 hw [] b370 (1 : Int32) (2 : Int32) sj3 ar370 T370.heap n0 Z370 ab370 (by decide) (by decide)) hZ (hw _ (List.mem_of_getElem? (i := 108) rfl)) (hw _ (List.mem_of_getElem? (i := 2) rfl)) (by decide) (by decide)) (g := (mkF m 354 #[.val (.int p1), .val (.int p2), .val (.int p3), .val (.int p4), .val (.int p5), .val (.int p6), .val (.int w1), .val (.int w2), .val (.int w3), .val (.int w4), .val (.int w5), .val (.int w6), .val (.int w7), .val (.int w8), .val (.int rm), .val (.ref ad310), .val (.ref ad320), .val (.ref ad336), .val (.ref b370), .val (.int sj3)] [(.int (2 : Int32)), (.int (1 : Int32)), (.ref b370)])) rfl (by rw [hml]; rfl) (argsL := [(.ref b370), (.int (1 : Int32)), (.int (2 : Int32))]) (rest := []) (lenOf pd_22 rfl) rfl (by show 2 * 0 + _ ≤ _; exact Nat.le_of_eq rfl) (hb hby at_354) (fun _ _ => ⟨rfl, eh384, (by dsimp only [Pt.cells]; decide), (by dsimp only [Pt.slots]; decide)⟩)
          dsimp only [Pt.U, Pt.locs, Pt.cells, Pt.slots] at X385 l385 y385 z385 st385 hQ385
          subst l385 y385 z385
          obtain ⟨rfl, Nc385, hp385⟩ := hQ385
          have N385 := Fr.app N384 Nc385
          refine OwnWp.step st385 ?_
          have eh385 : T385.heap = T370.heap := hp385
          show OwnWp p e below s _ _ _ (T385.setTop (mkF m 357 #[.val (.int p1), .val (.int p2), .val (.int p3), .val (.int p4), .val (.int p5), .val (.int p6), .val (.int w1), .val (.int w2), .val (.int w3), .val (.int w4), .val (.int w5), .val (.int w6), .val (.int w7), .val (.int w8), .val (.int rm), .val (.ref ad310), .val (.ref ad320), .val (.ref ad336), .val (.ref b370), .val (.int sj3)] [(.int (own_apart sj3 ar370 (1 : Int32) (2 : Int32)))]))
          rw [own_apart1 hA370 ij3 (1 : Int32) (2 : Int32) (by decide) (by decide)]
          show OwnWp p e below s _ _ _ (T385.setTop (mkF m 357 #[.val (.int p1), .val (.int p2), .val (.int p3), .val (.int p4), .val (.int p5), .val (.int p6), .val (.int w1), .val (.int w2), .val (.int w3), .val (.int w4), .val (.int w5), .val (.int w6), .val (.int w7), .val (.int w8), .val (.int rm), .val (.ref ad310), .val (.ref ad320), .val (.ref ad336), .val (.ref b370), .val (.int sj3)] [(.int (1 : Int32))]))
          refine OwnWp.step (U' := T385.setTop (mkF m 364 #[.val (.int p1), .val (.int p2), .val (.int p3), .val (.int p4), .val (.int p5), .val (.int p6), .val (.int w1), .val (.int w2), .val (.int w3), .val (.int w4), .val (.int w5), .val (.int w6), .val (.int w7), .val (.int w8), .val (.int rm), .val (.ref ad310), .val (.ref ad320), .val (.ref ad336), .val (.ref b370), .val (.int sj3)] [(.int (3 : Int32)), (.int (1 : Int32)), (.ref b370)])) (fun t k => ?_) ?_
          · show Steps p.tables e below (T385.setTop (mkF m 357 #[.val (.int p1), .val (.int p2), .val (.int p3), .val (.int p4), .val (.int p5), .val (.int p6), .val (.int w1), .val (.int w2), .val (.int w3), .val (.int w4), .val (.int w5), .val (.int w6), .val (.int w7), .val (.int w8), .val (.int rm), .val (.ref ad310), .val (.ref ad320), .val (.ref ad336), .val (.ref b370), .val (.int sj3)] [(.int (1 : Int32))])) _
            refine XS.ifNo X385.here hx rfl (hb hby at_357) rfl (XT.i0_eq_f (by decide)) ?_
            show Steps p.tables e below (T385.setTop (mkF m 360 #[.val (.int p1), .val (.int p2), .val (.int p3), .val (.int p4), .val (.int p5), .val (.int p6), .val (.int w1), .val (.int w2), .val (.int w3), .val (.int w4), .val (.int w5), .val (.int w6), .val (.int w7), .val (.int w8), .val (.int rm), .val (.ref ad310), .val (.ref ad320), .val (.ref ad336), .val (.ref b370), .val (.int sj3)] [])) _
            refine XS.aload X385.here hx rfl (hb hby at_360) rfl rfl ?_
            show Steps p.tables e below (T385.setTop (mkF m 362 #[.val (.int p1), .val (.int p2), .val (.int p3), .val (.int p4), .val (.int p5), .val (.int p6), .val (.int w1), .val (.int w2), .val (.int w3), .val (.int w4), .val (.int w5), .val (.int w6), .val (.int w7), .val (.int w8), .val (.int rm), .val (.ref ad310), .val (.ref ad320), .val (.ref ad336), .val (.ref b370), .val (.int sj3)] [(.ref b370)])) _
            refine XT.iconstV X385.here hx rfl (1 : Int32) (hb hby at_362) rfl ?_
            show Steps p.tables e below (T385.setTop (mkF m 363 #[.val (.int p1), .val (.int p2), .val (.int p3), .val (.int p4), .val (.int p5), .val (.int p6), .val (.int w1), .val (.int w2), .val (.int w3), .val (.int w4), .val (.int w5), .val (.int w6), .val (.int w7), .val (.int w8), .val (.int rm), .val (.ref ad310), .val (.ref ad320), .val (.ref ad336), .val (.ref b370), .val (.int sj3)] [(.int (1 : Int32)), (.ref b370)])) _
            refine XT.iconstV X385.here hx rfl (3 : Int32) (hb hby at_363) rfl ?_
            show Steps p.tables e below (T385.setTop (mkF m 364 #[.val (.int p1), .val (.int p2), .val (.int p3), .val (.int p4), .val (.int p5), .val (.int p6), .val (.int w1), .val (.int w2), .val (.int w3), .val (.int w4), .val (.int w5), .val (.int w6), .val (.int w7), .val (.int w8), .val (.int rm), .val (.ref ad310), .val (.ref ad320), .val (.ref ad336), .val (.ref b370), .val (.int sj3)] [(.int (3 : Int32)), (.int (1 : Int32)), (.ref b370)])) _
            exact k
          obtain ⟨_, _, ⟨T386, L386, k386, n386⟩, -, X386, ⟨Lc386, hQ386, l386, y386, z386⟩, st386⟩ := Jvm.LawKit.callS X385 hx (y := (⟨"com/example/utu/utu/SlotNumbersToArrayPinLaw", "apart", "([III)Z"⟩ : MethodName)) hown (mvT hZ (hw _ (List.mem_of_getElem? (i := 106) rfl))) (mvT hZ (hw _ (List.mem_of_getElem? (i := 107) rfl))) (mvT hZ (hw _ (List.mem_of_getElem? (i := 2) rfl))) (mvT hZ (hw _ (List.mem_of_getElem? (i := 108) rfl))) (by decide) (backOf (W := 0) (rm22 l Z a0 hw [] b370 (1 : Int32) (3 : Int32) sj3 ar370 T370.heap n0 Z370 ab370 (by decide) (by decide)) hZ (hw _ (List.mem_of_getElem? (i := 108) rfl)) (hw _ (List.mem_of_getElem? (i := 2) rfl)) (by decide) (by decide)) (g := (mkF m 364 #[.val (.int p1), .val (.int p2), .val (.int p3), .val (.int p4), .val (.int p5), .val (.int p6), .val (.int w1), .val (.int w2), .val (.int w3), .val (.int w4), .val (.int w5), .val (.int w6), .val (.int w7), .val (.int w8), .val (.int rm), .val (.ref ad310), .val (.ref ad320), .val (.ref ad336), .val (.ref b370), .val (.int sj3)] [(.int (3 : Int32)), (.int (1 : Int32)), (.ref b370)])) rfl (by rw [hml]; rfl) (argsL := [(.ref b370), (.int (1 : Int32)), (.int (3 : Int32))]) (rest := []) (lenOf pd_22 rfl) rfl (by show 2 * 0 + _ ≤ _; exact Nat.le_of_eq rfl) (hb hby at_364) (fun _ _ => ⟨rfl, eh385, (by dsimp only [Pt.cells]; decide), (by dsimp only [Pt.slots]; decide)⟩)
          dsimp only [Pt.U, Pt.locs, Pt.cells, Pt.slots] at X386 l386 y386 z386 st386 hQ386
          subst l386 y386 z386
          obtain ⟨rfl, Nc386, hp386⟩ := hQ386
          have N386 := Fr.app N385 Nc386
          refine OwnWp.step st386 ?_
          have eh386 : T386.heap = T370.heap := hp386
          show OwnWp p e below s _ _ _ (T386.setTop (mkF m 367 #[.val (.int p1), .val (.int p2), .val (.int p3), .val (.int p4), .val (.int p5), .val (.int p6), .val (.int w1), .val (.int w2), .val (.int w3), .val (.int w4), .val (.int w5), .val (.int w6), .val (.int w7), .val (.int w8), .val (.int rm), .val (.ref ad310), .val (.ref ad320), .val (.ref ad336), .val (.ref b370), .val (.int sj3)] [(.int (own_apart sj3 ar370 (1 : Int32) (3 : Int32)))]))
          rw [own_apart1 hA370 ij3 (1 : Int32) (3 : Int32) (by decide) (by decide)]
          show OwnWp p e below s _ _ _ (T386.setTop (mkF m 367 #[.val (.int p1), .val (.int p2), .val (.int p3), .val (.int p4), .val (.int p5), .val (.int p6), .val (.int w1), .val (.int w2), .val (.int w3), .val (.int w4), .val (.int w5), .val (.int w6), .val (.int w7), .val (.int w8), .val (.int rm), .val (.ref ad310), .val (.ref ad320), .val (.ref ad336), .val (.ref b370), .val (.int sj3)] [(.int (1 : Int32))]))
          refine OwnWp.step (U' := T386.setTop (mkF m 374 #[.val (.int p1), .val (.int p2), .val (.int p3), .val (.int p4), .val (.int p5), .val (.int p6), .val (.int w1), .val (.int w2), .val (.int w3), .val (.int w4), .val (.int w5), .val (.int w6), .val (.int w7), .val (.int w8), .val (.int rm), .val (.ref ad310), .val (.ref ad320), .val (.ref ad336), .val (.ref b370), .val (.int sj3)] [(.int (3 : Int32)), (.int (2 : Int32)), (.ref b370)])) (fun t k => ?_) ?_
          · show Steps p.tables e below (T386.setTop (mkF m 367 #[.val (.int p1), .val (.int p2), .val (.int p3), .val (.int p4), .val (.int p5), .val (.int p6), .val (.int w1), .val (.int w2), .val (.int w3), .val (.int w4), .val (.int w5), .val (.int w6), .val (.int w7), .val (.int w8), .val (.int rm), .val (.ref ad310), .val (.ref ad320), .val (.ref ad336), .val (.ref b370), .val (.int sj3)] [(.int (1 : Int32))])) _
            refine XS.ifNo X386.here hx rfl (hb hby at_367) rfl (XT.i0_eq_f (by decide)) ?_
            show Steps p.tables e below (T386.setTop (mkF m 370 #[.val (.int p1), .val (.int p2), .val (.int p3), .val (.int p4), .val (.int p5), .val (.int p6), .val (.int w1), .val (.int w2), .val (.int w3), .val (.int w4), .val (.int w5), .val (.int w6), .val (.int w7), .val (.int w8), .val (.int rm), .val (.ref ad310), .val (.ref ad320), .val (.ref ad336), .val (.ref b370), .val (.int sj3)] [])) _
            refine XS.aload X386.here hx rfl (hb hby at_370) rfl rfl ?_
            show Steps p.tables e below (T386.setTop (mkF m 372 #[.val (.int p1), .val (.int p2), .val (.int p3), .val (.int p4), .val (.int p5), .val (.int p6), .val (.int w1), .val (.int w2), .val (.int w3), .val (.int w4), .val (.int w5), .val (.int w6), .val (.int w7), .val (.int w8), .val (.int rm), .val (.ref ad310), .val (.ref ad320), .val (.ref ad336), .val (.ref b370), .val (.int sj3)] [(.ref b370)])) _
            refine XT.iconstV X386.here hx rfl (2 : Int32) (hb hby at_372) rfl ?_
            show Steps p.tables e below (T386.setTop (mkF m 373 #[.val (.int p1), .val (.int p2), .val (.int p3), .val (.int p4), .val (.int p5), .val (.int p6), .val (.int w1), .val (.int w2), .val (.int w3), .val (.int w4), .val (.int w5), .val (.int w6), .val (.int w7), .val (.int w8), .val (.int rm), .val (.ref ad310), .val (.ref ad320), .val (.ref ad336), .val (.ref b370), .val (.int sj3)] [(.int (2 : Int32)), (.ref b370)])) _
            refine XT.iconstV X386.here hx rfl (3 : Int32) (hb hby at_373) rfl ?_
            show Steps p.tables e below (T386.setTop (mkF m 374 #[.val (.int p1), .val (.int p2), .val (.int p3), .val (.int p4), .val (.int p5), .val (.int p6), .val (.int w1), .val (.int w2), .val (.int w3), .val (.int w4), .val (.int w5), .val (.int w6), .val (.int w7), .val (.int w8), .val (.int rm), .val (.ref ad310), .val (.ref ad320), .val (.ref ad336), .val (.ref b370), .val (.int sj3)] [(.int (3 : Int32)), (.int (2 : Int32)), (.ref b370)])) _
            exact k
          obtain ⟨_, _, ⟨T387, L387, k387, n387⟩, -, X387, ⟨Lc387, hQ387, l387, y387, z387⟩, st387⟩ := Jvm.LawKit.callS X386 hx (y := (⟨"com/example/utu/utu/SlotNumbersToArrayPinLaw", "apart", "([III)Z"⟩ : MethodName)) hown (mvT hZ (hw _ (List.mem_of_getElem? (i := 106) rfl))) (mvT hZ (hw _ (List.mem_of_getElem? (i := 107) rfl))) (mvT hZ (hw _ (List.mem_of_getElem? (i := 2) rfl))) (mvT hZ (hw _ (List.mem_of_getElem? (i := 108) rfl))) (by decide) (backOf (W := 0) (rm22 l Z a0 hw [] b370 (2 : Int32) (3 : Int32) sj3 ar370 T370.heap n0 Z370 ab370 (by decide) (by decide)) hZ (hw _ (List.mem_of_getElem? (i := 108) rfl)) (hw _ (List.mem_of_getElem? (i := 2) rfl)) (by decide) (by decide)) (g := (mkF m 374 #[.val (.int p1), .val (.int p2), .val (.int p3), .val (.int p4), .val (.int p5), .val (.int p6), .val (.int w1), .val (.int w2), .val (.int w3), .val (.int w4), .val (.int w5), .val (.int w6), .val (.int w7), .val (.int w8), .val (.int rm), .val (.ref ad310), .val (.ref ad320), .val (.ref ad336), .val (.ref b370), .val (.int sj3)] [(.int (3 : Int32)), (.int (2 : Int32)), (.ref b370)])) rfl (by rw [hml]; rfl) (argsL := [(.ref b370), (.int (2 : Int32)), (.int (3 : Int32))]) (rest := []) (lenOf pd_22 rfl) rfl (by show 2 * 0 + _ ≤ _; exact Nat.le_of_eq rfl) (hb hby at_374) (fun _ _ => ⟨rfl, eh386, (by dsimp only [Pt.cells]; decide), (by dsimp only [Pt.slots]; decide)⟩)
          dsimp only [Pt.U, Pt.locs, Pt.cells, Pt.slots] at X387 l387 y387 z387 st387 hQ387
          subst l387 y387 z387
          obtain ⟨rfl, Nc387, hp387⟩ := hQ387
          have N387 := Fr.app N386 Nc387
          refine OwnWp.step st387 ?_
          have eh387 : T387.heap = T370.heap := hp387
          show OwnWp p e below s _ _ _ (T387.setTop (mkF m 377 #[.val (.int p1), .val (.int p2), .val (.int p3), .val (.int p4), .val (.int p5), .val (.int p6), .val (.int w1), .val (.int w2), .val (.int w3), .val (.int w4), .val (.int w5), .val (.int w6), .val (.int w7), .val (.int w8), .val (.int rm), .val (.ref ad310), .val (.ref ad320), .val (.ref ad336), .val (.ref b370), .val (.int sj3)] [(.int (own_apart sj3 ar370 (2 : Int32) (3 : Int32)))]))
          rw [own_apart1 hA370 ij3 (2 : Int32) (3 : Int32) (by decide) (by decide)]
          show OwnWp p e below s _ _ _ (T387.setTop (mkF m 377 #[.val (.int p1), .val (.int p2), .val (.int p3), .val (.int p4), .val (.int p5), .val (.int p6), .val (.int w1), .val (.int w2), .val (.int w3), .val (.int w4), .val (.int w5), .val (.int w6), .val (.int w7), .val (.int w8), .val (.int rm), .val (.ref ad310), .val (.ref ad320), .val (.ref ad336), .val (.ref b370), .val (.int sj3)] [(.int (1 : Int32))]))
          refine OwnWp.step (U' := T387.setTop (mkF m 391 #[.val (.int p1), .val (.int p2), .val (.int p3), .val (.int p4), .val (.int p5), .val (.int p6), .val (.int w1), .val (.int w2), .val (.int w3), .val (.int w4), .val (.int w5), .val (.int w6), .val (.int w7), .val (.int w8), .val (.int rm), .val (.ref ad310), .val (.ref ad320), .val (.ref ad336), .val (.ref b370), .val (.int sj3)] [(.int rm), (.int w8), (.ref ad320), (.ref ad310), (.int (0 : Int32)), (.ref b370)])) (fun t k => ?_) ?_
          · show Steps p.tables e below (T387.setTop (mkF m 377 #[.val (.int p1), .val (.int p2), .val (.int p3), .val (.int p4), .val (.int p5), .val (.int p6), .val (.int w1), .val (.int w2), .val (.int w3), .val (.int w4), .val (.int w5), .val (.int w6), .val (.int w7), .val (.int w8), .val (.int rm), .val (.ref ad310), .val (.ref ad320), .val (.ref ad336), .val (.ref b370), .val (.int sj3)] [(.int (1 : Int32))])) _
            refine XS.ifNo X387.here hx rfl (hb hby at_377) rfl (XT.i0_eq_f (by decide)) ?_
            show Steps p.tables e below (T387.setTop (mkF m 380 #[.val (.int p1), .val (.int p2), .val (.int p3), .val (.int p4), .val (.int p5), .val (.int p6), .val (.int w1), .val (.int w2), .val (.int w3), .val (.int w4), .val (.int w5), .val (.int w6), .val (.int w7), .val (.int w8), .val (.int rm), .val (.ref ad310), .val (.ref ad320), .val (.ref ad336), .val (.ref b370), .val (.int sj3)] [])) _
            refine XS.aload X387.here hx rfl (hb hby at_380) rfl rfl ?_
            show Steps p.tables e below (T387.setTop (mkF m 382 #[.val (.int p1), .val (.int p2), .val (.int p3), .val (.int p4), .val (.int p5), .val (.int p6), .val (.int w1), .val (.int w2), .val (.int w3), .val (.int w4), .val (.int w5), .val (.int w6), .val (.int w7), .val (.int w8), .val (.int rm), .val (.ref ad310), .val (.ref ad320), .val (.ref ad336), .val (.ref b370), .val (.int sj3)] [(.ref b370)])) _
            refine XT.iconstV X387.here hx rfl (0 : Int32) (hb hby at_382) rfl ?_
            show Steps p.tables e below (T387.setTop (mkF m 383 #[.val (.int p1), .val (.int p2), .val (.int p3), .val (.int p4), .val (.int p5), .val (.int p6), .val (.int w1), .val (.int w2), .val (.int w3), .val (.int w4), .val (.int w5), .val (.int w6), .val (.int w7), .val (.int w8), .val (.int rm), .val (.ref ad310), .val (.ref ad320), .val (.ref ad336), .val (.ref b370), .val (.int sj3)] [(.int (0 : Int32)), (.ref b370)])) _
            refine XS.aload X387.here hx rfl (hb hby at_383) rfl rfl ?_
            show Steps p.tables e below (T387.setTop (mkF m 385 #[.val (.int p1), .val (.int p2), .val (.int p3), .val (.int p4), .val (.int p5), .val (.int p6), .val (.int w1), .val (.int w2), .val (.int w3), .val (.int w4), .val (.int w5), .val (.int w6), .val (.int w7), .val (.int w8), .val (.int rm), .val (.ref ad310), .val (.ref ad320), .val (.ref ad336), .val (.ref b370), .val (.int sj3)] [(.ref ad310), (.int (0 : Int32)), (.ref b370)])) _
            refine XS.aload X387.here hx rfl (hb hby at_385) rfl rfl ?_
            show Steps p.tables e below (T387.setTop (mkF m 387 #[.val (.int p1), .val (.int p2), .val (.int p3), .val (.int p4), .val (.int p5), .val (.int p6), .val (.int w1), .val (.int w2), .val (.int w3), .val (.int w4), .val (.int w5), .val (.int w6), .val (.int w7), .val (.int w8), .val (.int rm), .val (.ref ad310), .val (.ref ad320), .val (.ref ad336), .val (.ref b370), .val (.int sj3)] [(.ref ad320), (.ref ad310), (.int (0 : Int32)), (.ref b370)])) _
            refine XS.iload X387.here hx rfl (hb hby at_387) rfl ?_
            show Steps p.tables e below (T387.setTop (mkF m 389 #[.val (.int p1), .val (.int p2), .val (.int p3), .val (.int p4), .val (.int p5), .val (.int p6), .val (.int w1), .val (.int w2), .val (.int w3), .val (.int w4), .val (.int w5), .val (.int w6), .val (.int w7), .val (.int w8), .val (.int rm), .val (.ref ad310), .val (.ref ad320), .val (.ref ad336), .val (.ref b370), .val (.int sj3)] [(.int w8), (.ref ad320), (.ref ad310), (.int (0 : Int32)), (.ref b370)])) _
            refine XS.iload X387.here hx rfl (hb hby at_389) rfl ?_
            show Steps p.tables e below (T387.setTop (mkF m 391 #[.val (.int p1), .val (.int p2), .val (.int p3), .val (.int p4), .val (.int p5), .val (.int p6), .val (.int w1), .val (.int w2), .val (.int w3), .val (.int w4), .val (.int w5), .val (.int w6), .val (.int w7), .val (.int w8), .val (.int rm), .val (.ref ad310), .val (.ref ad320), .val (.ref ad336), .val (.ref b370), .val (.int sj3)] [(.int rm), (.int w8), (.ref ad320), (.ref ad310), (.int (0 : Int32)), (.ref b370)])) _
            exact k
          obtain ⟨_, _, ⟨T388, L388, k388, n388⟩, -, X388, ⟨Lc388, hQ388, l388, y388, z388⟩, st388⟩ := Jvm.LawKit.callS X387 hx (y := (⟨"com/example/utu/utu/SlotNumbersToArrayPinLaw", "covered", "([II[I[ZZI)Z"⟩ : MethodName)) hown (mvT hZ (hw _ (List.mem_of_getElem? (i := 109) rfl))) (mvT hZ (hw _ (List.mem_of_getElem? (i := 110) rfl))) (mvT hZ (hw _ (List.mem_of_getElem? (i := 2) rfl))) (mvT hZ (hw _ (List.mem_of_getElem? (i := 111) rfl))) (by decide) (backOf (W := 0) (rm23 l Z a0 hw [] b370 (0 : Int32) ad310 ad320 w8 rm sj3 ar370 (own_ex w1 w2 w3 w4) (own_on w5 w6) T370.heap n0 Z370 ab370 f371 f372 (by decide)) hZ (hw _ (List.mem_of_getElem? (i := 111) rfl)) (hw _ (List.mem_of_getElem? (i := 2) rfl)) (by decide) (by decide)) (g := (mkF m 391 #[.val (.int p1), .val (.int p2), .val (.int p3), .val (.int p4), .val (.int p5), .val (.int p6), .val (.int w1), .val (.int w2), .val (.int w3), .val (.int w4), .val (.int w5), .val (.int w6), .val (.int w7), .val (.int w8), .val (.int rm), .val (.ref ad310), .val (.ref ad320), .val (.ref ad336), .val (.ref b370), .val (.int sj3)] [(.int rm), (.int w8), (.ref ad320), (.ref ad310), (.int (0 : Int32)), (.ref b370)])) rfl (by rw [hml]; rfl) (argsL := [(.ref b370), (.int (0 : Int32)), (.ref ad310), (.ref ad320), (.int w8), (.int rm)]) (rest := []) (lenOf pd_23 rfl) rfl (by show 2 * 0 + _ ≤ _; exact Nat.le_of_eq rfl) (hb hby at_391) (fun _ _ => ⟨rfl, eh387, (by dsimp only [Pt.cells]; decide), (by dsimp only [Pt.slots]; decide)⟩)
          dsimp only [Pt.U, Pt.locs, Pt.cells, Pt.slots] at X388 l388 y388 z388 st388 hQ388
          subst l388 y388 z388
          obtain ⟨rfl, Nc388, hp388⟩ := hQ388
          have N388 := Fr.app N387 Nc388
          refine OwnWp.step st388 ?_
          have eh388 : T388.heap = T370.heap := hp388
          show OwnWp p e below s _ _ _ (T388.setTop (mkF m 394 #[.val (.int p1), .val (.int p2), .val (.int p3), .val (.int p4), .val (.int p5), .val (.int p6), .val (.int w1), .val (.int w2), .val (.int w3), .val (.int w4), .val (.int w5), .val (.int w6), .val (.int w7), .val (.int w8), .val (.int rm), .val (.ref ad310), .val (.ref ad320), .val (.ref ad336), .val (.ref b370), .val (.int sj3)] [(.int (own_covered sj3 ar370 (0 : Int32) (own_ex w1 w2 w3 w4) (own_on w5 w6) w8 rm))]))
          rw [own_covered1 hA370 mj3 ij3 zw1 zw2 zw3 zw4 (0 : Int32) (by decide)]
          show OwnWp p e below s _ _ _ (T388.setTop (mkF m 394 #[.val (.int p1), .val (.int p2), .val (.int p3), .val (.int p4), .val (.int p5), .val (.int p6), .val (.int w1), .val (.int w2), .val (.int w3), .val (.int w4), .val (.int w5), .val (.int w6), .val (.int w7), .val (.int w8), .val (.int rm), .val (.ref ad310), .val (.ref ad320), .val (.ref ad336), .val (.ref b370), .val (.int sj3)] [(.int (1 : Int32))]))
          refine OwnWp.step (U' := T388.setTop (mkF m 408 #[.val (.int p1), .val (.int p2), .val (.int p3), .val (.int p4), .val (.int p5), .val (.int p6), .val (.int w1), .val (.int w2), .val (.int w3), .val (.int w4), .val (.int w5), .val (.int w6), .val (.int w7), .val (.int w8), .val (.int rm), .val (.ref ad310), .val (.ref ad320), .val (.ref ad336), .val (.ref b370), .val (.int sj3)] [(.int rm), (.int w8), (.ref ad320), (.ref ad310), (.int (1 : Int32)), (.ref b370)])) (fun t k => ?_) ?_
          · show Steps p.tables e below (T388.setTop (mkF m 394 #[.val (.int p1), .val (.int p2), .val (.int p3), .val (.int p4), .val (.int p5), .val (.int p6), .val (.int w1), .val (.int w2), .val (.int w3), .val (.int w4), .val (.int w5), .val (.int w6), .val (.int w7), .val (.int w8), .val (.int rm), .val (.ref ad310), .val (.ref ad320), .val (.ref ad336), .val (.ref b370), .val (.int sj3)] [(.int (1 : Int32))])) _
            refine XS.ifNo X388.here hx rfl (hb hby at_394) rfl (XT.i0_eq_f (by decide)) ?_
            show Steps p.tables e below (T388.setTop (mkF m 397 #[.val (.int p1), .val (.int p2), .val (.int p3), .val (.int p4), .val (.int p5), .val (.int p6), .val (.int w1), .val (.int w2), .val (.int w3), .val (.int w4), .val (.int w5), .val (.int w6), .val (.int w7), .val (.int w8), .val (.int rm), .val (.ref ad310), .val (.ref ad320), .val (.ref ad336), .val (.ref b370), .val (.int sj3)] [])) _
            refine XS.aload X388.here hx rfl (hb hby at_397) rfl rfl ?_
            show Steps p.tables e below (T388.setTop (mkF m 399 #[.val (.int p1), .val (.int p2), .val (.int p3), .val (.int p4), .val (.int p5), .val (.int p6), .val (.int w1), .val (.int w2), .val (.int w3), .val (.int w4), .val (.int w5), .val (.int w6), .val (.int w7), .val (.int w8), .val (.int rm), .val (.ref ad310), .val (.ref ad320), .val (.ref ad336), .val (.ref b370), .val (.int sj3)] [(.ref b370)])) _
            refine XT.iconstV X388.here hx rfl (1 : Int32) (hb hby at_399) rfl ?_
            show Steps p.tables e below (T388.setTop (mkF m 400 #[.val (.int p1), .val (.int p2), .val (.int p3), .val (.int p4), .val (.int p5), .val (.int p6), .val (.int w1), .val (.int w2), .val (.int w3), .val (.int w4), .val (.int w5), .val (.int w6), .val (.int w7), .val (.int w8), .val (.int rm), .val (.ref ad310), .val (.ref ad320), .val (.ref ad336), .val (.ref b370), .val (.int sj3)] [(.int (1 : Int32)), (.ref b370)])) _
            refine XS.aload X388.here hx rfl (hb hby at_400) rfl rfl ?_
            show Steps p.tables e below (T388.setTop (mkF m 402 #[.val (.int p1), .val (.int p2), .val (.int p3), .val (.int p4), .val (.int p5), .val (.int p6), .val (.int w1), .val (.int w2), .val (.int w3), .val (.int w4), .val (.int w5), .val (.int w6), .val (.int w7), .val (.int w8), .val (.int rm), .val (.ref ad310), .val (.ref ad320), .val (.ref ad336), .val (.ref b370), .val (.int sj3)] [(.ref ad310), (.int (1 : Int32)), (.ref b370)])) _
            refine XS.aload X388.here hx rfl (hb hby at_402) rfl rfl ?_
            show Steps p.tables e below (T388.setTop (mkF m 404 #[.val (.int p1), .val (.int p2), .val (.int p3), .val (.int p4), .val (.int p5), .val (.int p6), .val (.int w1), .val (.int w2), .val (.int w3), .val (.int w4), .val (.int w5), .val (.int w6), .val (.int w7), .val (.int w8), .val (.int rm), .val (.ref ad310), .val (.ref ad320), .val (.ref ad336), .val (.ref b370), .val (.int sj3)] [(.ref ad320), (.ref ad310), (.int (1 : Int32)), (.ref b370)])) _
            refine XS.iload X388.here hx rfl (hb hby at_404) rfl ?_
            show Steps p.tables e below (T388.setTop (mkF m 406 #[.val (.int p1), .val (.int p2), .val (.int p3), .val (.int p4), .val (.int p5), .val (.int p6), .val (.int w1), .val (.int w2), .val (.int w3), .val (.int w4), .val (.int w5), .val (.int w6), .val (.int w7), .val (.int w8), .val (.int rm), .val (.ref ad310), .val (.ref ad320), .val (.ref ad336), .val (.ref b370), .val (.int sj3)] [(.int w8), (.ref ad320), (.ref ad310), (.int (1 : Int32)), (.ref b370)])) _
            refine XS.iload X388.here hx rfl (hb hby at_406) rfl ?_
            show Steps p.tables e below (T388.setTop (mkF m 408 #[.val (.int p1), .val (.int p2), .val (.int p3), .val (.int p4), .val (.int p5), .val (.int p6), .val (.int w1), .val (.int w2), .val (.int w3), .val (.int w4), .val (.int w5), .val (.int w6), .val (.int w7), .val (.int w8), .val (.int rm), .val (.ref ad310), .val (.ref ad320), .val (.ref ad336), .val (.ref b370), .val (.int sj3)] [(.int rm), (.int w8), (.ref ad320), (.ref ad310), (.int (1 : Int32)), (.ref b370)])) _
            exact k
          obtain ⟨_, _, ⟨T389, L389, k389, n389⟩, -, X389, ⟨Lc389, hQ389, l389, y389, z389⟩, st389⟩ := Jvm.LawKit.callS X388 hx (y := (⟨"com/example/utu/utu/SlotNumbersToArrayPinLaw", "covered", "([II[I[ZZI)Z"⟩ : MethodName)) hown (mvT hZ (hw _ (List.mem_of_getElem? (i := 109) rfl))) (mvT hZ (hw _ (List.mem_of_getElem? (i := 110) rfl))) (mvT hZ (hw _ (List.mem_of_getElem? (i := 2) rfl))) (mvT hZ (hw _ (List.mem_of_getElem? (i := 111) rfl))) (by decide) (backOf (W := 0) (rm23 l Z a0 hw [] b370 (1 : Int32) ad310 ad320 w8 rm sj3 ar370 (own_ex w1 w2 w3 w4) (own_on w5 w6) T370.heap n0 Z370 ab370 f371 f372 (by decide)) hZ (hw _ (List.mem_of_getElem? (i := 111) rfl)) (hw _ (List.mem_of_getElem? (i := 2) rfl)) (by decide) (by decide)) (g := (mkF m 408 #[.val (.int p1), .val (.int p2), .val (.int p3), .val (.int p4), .val (.int p5), .val (.int p6), .val (.int w1), .val (.int w2), .val (.int w3), .val (.int w4), .val (.int w5), .val (.int w6), .val (.int w7), .val (.int w8), .val (.int rm), .val (.ref ad310), .val (.ref ad320), .val (.ref ad336), .val (.ref b370), .val (.int sj3)] [(.int rm), (.int w8), (.ref ad320), (.ref ad310), (.int (1 : Int32)), (.ref b370)])) rfl (by rw [hml]; rfl) (argsL := [(.ref b370), (.int (1 : Int32)), (.ref ad310), (.ref ad320), (.int w8), (.int rm)]) (rest := []) (lenOf pd_23 rfl) rfl (by show 2 * 0 + _ ≤ _; exact Nat.le_of_eq rfl) (hb hby at_408) (fun _ _ => ⟨rfl, eh388, (by dsimp only [Pt.cells]; decide), (by dsimp only [Pt.slots]; decide)⟩)
          dsimp only [Pt.U, Pt.locs, Pt.cells, Pt.slots] at X389 l389 y389 z389 st389 hQ389
          subst l389 y389 z389
          obtain ⟨rfl, Nc389, hp389⟩ := hQ389
          have N389 := Fr.app N388 Nc389
          refine OwnWp.step st389 ?_
          have eh389 : T389.heap = T370.heap := hp389
          show OwnWp p e below s _ _ _ (T389.setTop (mkF m 411 #[.val (.int p1), .val (.int p2), .val (.int p3), .val (.int p4), .val (.int p5), .val (.int p6), .val (.int w1), .val (.int w2), .val (.int w3), .val (.int w4), .val (.int w5), .val (.int w6), .val (.int w7), .val (.int w8), .val (.int rm), .val (.ref ad310), .val (.ref ad320), .val (.ref ad336), .val (.ref b370), .val (.int sj3)] [(.int (own_covered sj3 ar370 (1 : Int32) (own_ex w1 w2 w3 w4) (own_on w5 w6) w8 rm))]))
          rw [own_covered1 hA370 mj3 ij3 zw1 zw2 zw3 zw4 (1 : Int32) (by decide)]
          show OwnWp p e below s _ _ _ (T389.setTop (mkF m 411 #[.val (.int p1), .val (.int p2), .val (.int p3), .val (.int p4), .val (.int p5), .val (.int p6), .val (.int w1), .val (.int w2), .val (.int w3), .val (.int w4), .val (.int w5), .val (.int w6), .val (.int w7), .val (.int w8), .val (.int rm), .val (.ref ad310), .val (.ref ad320), .val (.ref ad336), .val (.ref b370), .val (.int sj3)] [(.int (1 : Int32))]))
          refine OwnWp.step (U' := T389.setTop (mkF m 425 #[.val (.int p1), .val (.int p2), .val (.int p3), .val (.int p4), .val (.int p5), .val (.int p6), .val (.int w1), .val (.int w2), .val (.int w3), .val (.int w4), .val (.int w5), .val (.int w6), .val (.int w7), .val (.int w8), .val (.int rm), .val (.ref ad310), .val (.ref ad320), .val (.ref ad336), .val (.ref b370), .val (.int sj3)] [(.int rm), (.int w8), (.ref ad320), (.ref ad310), (.int (2 : Int32)), (.ref b370)])) (fun t k => ?_) ?_
          · show Steps p.tables e below (T389.setTop (mkF m 411 #[.val (.int p1), .val (.int p2), .val (.int p3), .val (.int p4), .val (.int p5), .val (.int p6), .val (.int w1), .val (.int w2), .val (.int w3), .val (.int w4), .val (.int w5), .val (.int w6), .val (.int w7), .val (.int w8), .val (.int rm), .val (.ref ad310), .val (.ref ad320), .val (.ref ad336), .val (.ref b370), .val (.int sj3)] [(.int (1 : Int32))])) _
            refine XS.ifNo X389.here hx rfl (hb hby at_411) rfl (XT.i0_eq_f (by decide)) ?_
            show Steps p.tables e below (T389.setTop (mkF m 414 #[.val (.int p1), .val (.int p2), .val (.int p3), .val (.int p4), .val (.int p5), .val (.int p6), .val (.int w1), .val (.int w2), .val (.int w3), .val (.int w4), .val (.int w5), .val (.int w6), .val (.int w7), .val (.int w8), .val (.int rm), .val (.ref ad310), .val (.ref ad320), .val (.ref ad336), .val (.ref b370), .val (.int sj3)] [])) _
            refine XS.aload X389.here hx rfl (hb hby at_414) rfl rfl ?_
            show Steps p.tables e below (T389.setTop (mkF m 416 #[.val (.int p1), .val (.int p2), .val (.int p3), .val (.int p4), .val (.int p5), .val (.int p6), .val (.int w1), .val (.int w2), .val (.int w3), .val (.int w4), .val (.int w5), .val (.int w6), .val (.int w7), .val (.int w8), .val (.int rm), .val (.ref ad310), .val (.ref ad320), .val (.ref ad336), .val (.ref b370), .val (.int sj3)] [(.ref b370)])) _
            refine XT.iconstV X389.here hx rfl (2 : Int32) (hb hby at_416) rfl ?_
            show Steps p.tables e below (T389.setTop (mkF m 417 #[.val (.int p1), .val (.int p2), .val (.int p3), .val (.int p4), .val (.int p5), .val (.int p6), .val (.int w1), .val (.int w2), .val (.int w3), .val (.int w4), .val (.int w5), .val (.int w6), .val (.int w7), .val (.int w8), .val (.int rm), .val (.ref ad310), .val (.ref ad320), .val (.ref ad336), .val (.ref b370), .val (.int sj3)] [(.int (2 : Int32)), (.ref b370)])) _
            refine XS.aload X389.here hx rfl (hb hby at_417) rfl rfl ?_
            show Steps p.tables e below (T389.setTop (mkF m 419 #[.val (.int p1), .val (.int p2), .val (.int p3), .val (.int p4), .val (.int p5), .val (.int p6), .val (.int w1), .val (.int w2), .val (.int w3), .val (.int w4), .val (.int w5), .val (.int w6), .val (.int w7), .val (.int w8), .val (.int rm), .val (.ref ad310), .val (.ref ad320), .val (.ref ad336), .val (.ref b370), .val (.int sj3)] [(.ref ad310), (.int (2 : Int32)), (.ref b370)])) _
            refine XS.aload X389.here hx rfl (hb hby at_419) rfl rfl ?_
            show Steps p.tables e below (T389.setTop (mkF m 421 #[.val (.int p1), .val (.int p2), .val (.int p3), .val (.int p4), .val (.int p5), .val (.int p6), .val (.int w1), .val (.int w2), .val (.int w3), .val (.int w4), .val (.int w5), .val (.int w6), .val (.int w7), .val (.int w8), .val (.int rm), .val (.ref ad310), .val (.ref ad320), .val (.ref ad336), .val (.ref b370), .val (.int sj3)] [(.ref ad320), (.ref ad310), (.int (2 : Int32)), (.ref b370)])) _
            refine XS.iload X389.here hx rfl (hb hby at_421) rfl ?_
            show Steps p.tables e below (T389.setTop (mkF m 423 #[.val (.int p1), .val (.int p2), .val (.int p3), .val (.int p4), .val (.int p5), .val (.int p6), .val (.int w1), .val (.int w2), .val (.int w3), .val (.int w4), .val (.int w5), .val (.int w6), .val (.int w7), .val (.int w8), .val (.int rm), .val (.ref ad310), .val (.ref ad320), .val (.ref ad336), .val (.ref b370), .val (.int sj3)] [(.int w8), (.ref ad320), (.ref ad310), (.int (2 : Int32)), (.ref b370)])) _
            refine XS.iload X389.here hx rfl (hb hby at_423) rfl ?_
            show Steps p.tables e below (T389.setTop (mkF m 425 #[.val (.int p1), .val (.int p2), .val (.int p3), .val (.int p4), .val (.int p5), .val (.int p6), .val (.int w1), .val (.int w2), .val (.int w3), .val (.int w4), .val (.int w5), .val (.int w6), .val (.int w7), .val (.int w8), .val (.int rm), .val (.ref ad310), .val (.ref ad320), .val (.ref ad336), .val (.ref b370), .val (.int sj3)] [(.int rm), (.int w8), (.ref ad320), (.ref ad310), (.int (2 : Int32)), (.ref b370)])) _
            exact k
          obtain ⟨_, _, ⟨T390, L390, k390, n390⟩, -, X390, ⟨Lc390, hQ390, l390, y390, z390⟩, st390⟩ := Jvm.LawKit.callS X389 hx (y := (⟨"com/example/utu/utu/SlotNumbersToArrayPinLaw", "covered", "([II[I[ZZI)Z"⟩ : MethodName)) hown (mvT hZ (hw _ (List.mem_of_getElem? (i := 109) rfl))) (mvT hZ (hw _ (List.mem_of_getElem? (i := 110) rfl))) (mvT hZ (hw _ (List.mem_of_getElem? (i := 2) rfl))) (mvT hZ (hw _ (List.mem_of_getElem? (i := 111) rfl))) (by decide) (backOf (W := 0) (rm23 l Z a0 hw [] b370 (2 : Int32) ad310 ad320 w8 rm sj3 ar370 (own_ex w1 w2 w3 w4) (own_on w5 w6) T370.heap n0 Z370 ab370 f371 f372 (by decide)) hZ (hw _ (List.mem_of_getElem? (i := 111) rfl)) (hw _ (List.mem_of_getElem? (i := 2) rfl)) (by decide) (by decide)) (g := (mkF m 425 #[.val (.int p1), .val (.int p2), .val (.int p3), .val (.int p4), .val (.int p5), .val (.int p6), .val (.int w1), .val (.int w2), .val (.int w3), .val (.int w4), .val (.int w5), .val (.int w6), .val (.int w7), .val (.int w8), .val (.int rm), .val (.ref ad310), .val (.ref ad320), .val (.ref ad336), .val (.ref b370), .val (.int sj3)] [(.int rm), (.int w8), (.ref ad320), (.ref ad310), (.int (2 : Int32)), (.ref b370)])) rfl (by rw [hml]; rfl) (argsL := [(.ref b370), (.int (2 : Int32)), (.ref ad310), (.ref ad320), (.int w8), (.int rm)]) (rest := []) (lenOf pd_23 rfl) rfl (by show 2 * 0 + _ ≤ _; exact Nat.le_of_eq rfl) (hb hby at_425) (fun _ _ => ⟨rfl, eh389, (by dsimp only [Pt.cells]; decide), (by dsimp only [Pt.slots]; decide)⟩)
          dsimp only [Pt.U, Pt.locs, Pt.cells, Pt.slots] at X390 l390 y390 z390 st390 hQ390
          subst l390 y390 z390
          obtain ⟨rfl, Nc390, hp390⟩ := hQ390
          have N390 := Fr.app N389 Nc390
          refine OwnWp.step st390 ?_
          have eh390 : T390.heap = T370.heap := hp390
          show OwnWp p e below s _ _ _ (T390.setTop (mkF m 428 #[.val (.int p1), .val (.int p2), .val (.int p3), .val (.int p4), .val (.int p5), .val (.int p6), .val (.int w1), .val (.int w2), .val (.int w3), .val (.int w4), .val (.int w5), .val (.int w6), .val (.int w7), .val (.int w8), .val (.int rm), .val (.ref ad310), .val (.ref ad320), .val (.ref ad336), .val (.ref b370), .val (.int sj3)] [(.int (own_covered sj3 ar370 (2 : Int32) (own_ex w1 w2 w3 w4) (own_on w5 w6) w8 rm))]))
          rw [own_covered1 hA370 mj3 ij3 zw1 zw2 zw3 zw4 (2 : Int32) (by decide)]
          show OwnWp p e below s _ _ _ (T390.setTop (mkF m 428 #[.val (.int p1), .val (.int p2), .val (.int p3), .val (.int p4), .val (.int p5), .val (.int p6), .val (.int w1), .val (.int w2), .val (.int w3), .val (.int w4), .val (.int w5), .val (.int w6), .val (.int w7), .val (.int w8), .val (.int rm), .val (.ref ad310), .val (.ref ad320), .val (.ref ad336), .val (.ref b370), .val (.int sj3)] [(.int (1 : Int32))]))
          refine OwnWp.step (U' := T390.setTop (mkF m 442 #[.val (.int p1), .val (.int p2), .val (.int p3), .val (.int p4), .val (.int p5), .val (.int p6), .val (.int w1), .val (.int w2), .val (.int w3), .val (.int w4), .val (.int w5), .val (.int w6), .val (.int w7), .val (.int w8), .val (.int rm), .val (.ref ad310), .val (.ref ad320), .val (.ref ad336), .val (.ref b370), .val (.int sj3)] [(.int rm), (.int w8), (.ref ad320), (.ref ad310), (.int (3 : Int32)), (.ref b370)])) (fun t k => ?_) ?_
          · show Steps p.tables e below (T390.setTop (mkF m 428 #[.val (.int p1), .val (.int p2), .val (.int p3), .val (.int p4), .val (.int p5), .val (.int p6), .val (.int w1), .val (.int w2), .val (.int w3), .val (.int w4), .val (.int w5), .val (.int w6), .val (.int w7), .val (.int w8), .val (.int rm), .val (.ref ad310), .val (.ref ad320), .val (.ref ad336), .val (.ref b370), .val (.int sj3)] [(.int (1 : Int32))])) _
            refine XS.ifNo X390.here hx rfl (hb hby at_428) rfl (XT.i0_eq_f (by decide)) ?_
            show Steps p.tables e below (T390.setTop (mkF m 431 #[.val (.int p1), .val (.int p2), .val (.int p3), .val (.int p4), .val (.int p5), .val (.int p6), .val (.int w1), .val (.int w2), .val (.int w3), .val (.int w4), .val (.int w5), .val (.int w6), .val (.int w7), .val (.int w8), .val (.int rm), .val (.ref ad310), .val (.ref ad320), .val (.ref ad336), .val (.ref b370), .val (.int sj3)] [])) _
            refine XS.aload X390.here hx rfl (hb hby at_431) rfl rfl ?_
            show Steps p.tables e below (T390.setTop (mkF m 433 #[.val (.int p1), .val (.int p2), .val (.int p3), .val (.int p4), .val (.int p5), .val (.int p6), .val (.int w1), .val (.int w2), .val (.int w3), .val (.int w4), .val (.int w5), .val (.int w6), .val (.int w7), .val (.int w8), .val (.int rm), .val (.ref ad310), .val (.ref ad320), .val (.ref ad336), .val (.ref b370), .val (.int sj3)] [(.ref b370)])) _
            refine XT.iconstV X390.here hx rfl (3 : Int32) (hb hby at_433) rfl ?_
            show Steps p.tables e below (T390.setTop (mkF m 434 #[.val (.int p1), .val (.int p2), .val (.int p3), .val (.int p4), .val (.int p5), .val (.int p6), .val (.int w1), .val (.int w2), .val (.int w3), .val (.int w4), .val (.int w5), .val (.int w6), .val (.int w7), .val (.int w8), .val (.int rm), .val (.ref ad310), .val (.ref ad320), .val (.ref ad336), .val (.ref b370), .val (.int sj3)] [(.int (3 : Int32)), (.ref b370)])) _
            refine XS.aload X390.here hx rfl (hb hby at_434) rfl rfl ?_
            show Steps p.tables e below (T390.setTop (mkF m 436 #[.val (.int p1), .val (.int p2), .val (.int p3), .val (.int p4), .val (.int p5), .val (.int p6), .val (.int w1), .val (.int w2), .val (.int w3), .val (.int w4), .val (.int w5), .val (.int w6), .val (.int w7), .val (.int w8), .val (.int rm), .val (.ref ad310), .val (.ref ad320), .val (.ref ad336), .val (.ref b370), .val (.int sj3)] [(.ref ad310), (.int (3 : Int32)), (.ref b370)])) _
            refine XS.aload X390.here hx rfl (hb hby at_436) rfl rfl ?_
            show Steps p.tables e below (T390.setTop (mkF m 438 #[.val (.int p1), .val (.int p2), .val (.int p3), .val (.int p4), .val (.int p5), .val (.int p6), .val (.int w1), .val (.int w2), .val (.int w3), .val (.int w4), .val (.int w5), .val (.int w6), .val (.int w7), .val (.int w8), .val (.int rm), .val (.ref ad310), .val (.ref ad320), .val (.ref ad336), .val (.ref b370), .val (.int sj3)] [(.ref ad320), (.ref ad310), (.int (3 : Int32)), (.ref b370)])) _
            refine XS.iload X390.here hx rfl (hb hby at_438) rfl ?_
            show Steps p.tables e below (T390.setTop (mkF m 440 #[.val (.int p1), .val (.int p2), .val (.int p3), .val (.int p4), .val (.int p5), .val (.int p6), .val (.int w1), .val (.int w2), .val (.int w3), .val (.int w4), .val (.int w5), .val (.int w6), .val (.int w7), .val (.int w8), .val (.int rm), .val (.ref ad310), .val (.ref ad320), .val (.ref ad336), .val (.ref b370), .val (.int sj3)] [(.int w8), (.ref ad320), (.ref ad310), (.int (3 : Int32)), (.ref b370)])) _
            refine XS.iload X390.here hx rfl (hb hby at_440) rfl ?_
            show Steps p.tables e below (T390.setTop (mkF m 442 #[.val (.int p1), .val (.int p2), .val (.int p3), .val (.int p4), .val (.int p5), .val (.int p6), .val (.int w1), .val (.int w2), .val (.int w3), .val (.int w4), .val (.int w5), .val (.int w6), .val (.int w7), .val (.int w8), .val (.int rm), .val (.ref ad310), .val (.ref ad320), .val (.ref ad336), .val (.ref b370), .val (.int sj3)] [(.int rm), (.int w8), (.ref ad320), (.ref ad310), (.int (3 : Int32)), (.ref b370)])) _
            exact k
          obtain ⟨_, _, ⟨T391, L391, k391, n391⟩, -, X391, ⟨Lc391, hQ391, l391, y391, z391⟩, st391⟩ := Jvm.LawKit.callS X390 hx (y := (⟨"com/example/utu/utu/SlotNumbersToArrayPinLaw", "covered", "([II[I[ZZI)Z"⟩ : MethodName)) hown (mvT hZ (hw _ (List.mem_of_getElem? (i := 109) rfl))) (mvT hZ (hw _ (List.mem_of_getElem? (i := 110) rfl))) (mvT hZ (hw _ (List.mem_of_getElem? (i := 2) rfl))) (mvT hZ (hw _ (List.mem_of_getElem? (i := 111) rfl))) (by decide) (backOf (W := 0) (rm23 l Z a0 hw [] b370 (3 : Int32) ad310 ad320 w8 rm sj3 ar370 (own_ex w1 w2 w3 w4) (own_on w5 w6) T370.heap n0 Z370 ab370 f371 f372 (by decide)) hZ (hw _ (List.mem_of_getElem? (i := 111) rfl)) (hw _ (List.mem_of_getElem? (i := 2) rfl)) (by decide) (by decide)) (g := (mkF m 442 #[.val (.int p1), .val (.int p2), .val (.int p3), .val (.int p4), .val (.int p5), .val (.int p6), .val (.int w1), .val (.int w2), .val (.int w3), .val (.int w4), .val (.int w5), .val (.int w6), .val (.int w7), .val (.int w8), .val (.int rm), .val (.ref ad310), .val (.ref ad320), .val (.ref ad336), .val (.ref b370), .val (.int sj3)] [(.int rm), (.int w8), (.ref ad320), (.ref ad310), (.int (3 : Int32)), (.ref b370)])) rfl (by rw [hml]; rfl) (argsL := [(.ref b370), (.int (3 : Int32)), (.ref ad310), (.ref ad320), (.int w8), (.int rm)]) (rest := []) (lenOf pd_23 rfl) rfl (by show 2 * 0 + _ ≤ _; exact Nat.le_of_eq rfl) (hb hby at_442) (fun _ _ => ⟨rfl, eh390, (by dsimp only [Pt.cells]; decide), (by dsimp only [Pt.slots]; decide)⟩)
          dsimp only [Pt.U, Pt.locs, Pt.cells, Pt.slots] at X391 l391 y391 z391 st391 hQ391
          subst l391 y391 z391
          obtain ⟨rfl, Nc391, hp391⟩ := hQ391
          have N391 := Fr.app N390 Nc391
          refine OwnWp.step st391 ?_
          have eh391 : T391.heap = T370.heap := hp391
          show OwnWp p e below s _ _ _ (T391.setTop (mkF m 445 #[.val (.int p1), .val (.int p2), .val (.int p3), .val (.int p4), .val (.int p5), .val (.int p6), .val (.int w1), .val (.int w2), .val (.int w3), .val (.int w4), .val (.int w5), .val (.int w6), .val (.int w7), .val (.int w8), .val (.int rm), .val (.ref ad310), .val (.ref ad320), .val (.ref ad336), .val (.ref b370), .val (.int sj3)] [(.int (own_covered sj3 ar370 (3 : Int32) (own_ex w1 w2 w3 w4) (own_on w5 w6) w8 rm))]))
          rw [own_covered1 hA370 mj3 ij3 zw1 zw2 zw3 zw4 (3 : Int32) (by decide)]
          show OwnWp p e below s _ _ _ (T391.setTop (mkF m 445 #[.val (.int p1), .val (.int p2), .val (.int p3), .val (.int p4), .val (.int p5), .val (.int p6), .val (.int w1), .val (.int w2), .val (.int w3), .val (.int w4), .val (.int w5), .val (.int w6), .val (.int w7), .val (.int w8), .val (.int rm), .val (.ref ad310), .val (.ref ad320), .val (.ref ad336), .val (.ref b370), .val (.int sj3)] [(.int (1 : Int32))]))
          refine OwnWp.step (U' := T391.setTop (mkF m 453 #[.val (.int p1), .val (.int p2), .val (.int p3), .val (.int p4), .val (.int p5), .val (.int p6), .val (.int w1), .val (.int w2), .val (.int w3), .val (.int w4), .val (.int w5), .val (.int w6), .val (.int w7), .val (.int w8), .val (.int rm), .val (.ref ad310), .val (.ref ad320), .val (.ref ad336), .val (.ref b370), .val (.int sj3)] [(.int (1 : Int32))])) (fun t k => ?_) ?_
          · show Steps p.tables e below (T391.setTop (mkF m 445 #[.val (.int p1), .val (.int p2), .val (.int p3), .val (.int p4), .val (.int p5), .val (.int p6), .val (.int w1), .val (.int w2), .val (.int w3), .val (.int w4), .val (.int w5), .val (.int w6), .val (.int w7), .val (.int w8), .val (.int rm), .val (.ref ad310), .val (.ref ad320), .val (.ref ad336), .val (.ref b370), .val (.int sj3)] [(.int (1 : Int32))])) _
            refine XS.ifNo X391.here hx rfl (hb hby at_445) rfl (XT.i0_eq_f (by decide)) ?_
            show Steps p.tables e below (T391.setTop (mkF m 448 #[.val (.int p1), .val (.int p2), .val (.int p3), .val (.int p4), .val (.int p5), .val (.int p6), .val (.int w1), .val (.int w2), .val (.int w3), .val (.int w4), .val (.int w5), .val (.int w6), .val (.int w7), .val (.int w8), .val (.int rm), .val (.ref ad310), .val (.ref ad320), .val (.ref ad336), .val (.ref b370), .val (.int sj3)] [])) _
            refine XT.iconstV X391.here hx rfl (1 : Int32) (hb hby at_448) rfl ?_
            show Steps p.tables e below (T391.setTop (mkF m 449 #[.val (.int p1), .val (.int p2), .val (.int p3), .val (.int p4), .val (.int p5), .val (.int p6), .val (.int w1), .val (.int w2), .val (.int w3), .val (.int w4), .val (.int w5), .val (.int w6), .val (.int w7), .val (.int w8), .val (.int rm), .val (.ref ad310), .val (.ref ad320), .val (.ref ad336), .val (.ref b370), .val (.int sj3)] [(.int (1 : Int32))])) _
            refine XS.goto X391.here hx rfl (pc0 := 449) (pc' := 453) rfl (hb hby at_449) (by decide) (by decide) ?_
            show Steps p.tables e below (T391.setTop (mkF m 453 #[.val (.int p1), .val (.int p2), .val (.int p3), .val (.int p4), .val (.int p5), .val (.int p6), .val (.int w1), .val (.int w2), .val (.int w3), .val (.int w4), .val (.int w5), .val (.int w6), .val (.int w7), .val (.int w8), .val (.int rm), .val (.ref ad310), .val (.ref ad320), .val (.ref ad336), .val (.ref b370), .val (.int sj3)] [(.int (1 : Int32))])) _
            exact k
          refine OwnWp.retZ X391 hx hlk Bd.returns (hb hby at_453) (by decide) (by decide) (by decide) ?_
          exact ⟨rfl, N391⟩
        by_cases c212_392 : w8 = (0 : Int32)
        · refine OwnWp.step (U' := T356.setTop (mkF m 222 #[.val (.int p1), .val (.int p2), .val (.int p3), .val (.int p4), .val (.int p5), .val (.int p6), .val (.int w1), .val (.int w2), .val (.int w3), .val (.int w4), .val (.int w5), .val (.int w6), .val (.int w7), .val (.int w8), .val (.int rm), .val (.ref ad310), .val (.ref ad320), .val (.ref ad336), .unset, .unset] [])) (fun t k => ?_) ?_
          · show Steps p.tables e below (T356.setTop (mkF m 212 #[.val (.int p1), .val (.int p2), .val (.int p3), .val (.int p4), .val (.int p5), .val (.int p6), .val (.int w1), .val (.int w2), .val (.int w3), .val (.int w4), .val (.int w5), .val (.int w6), .val (.int w7), .val (.int w8), .val (.int rm), .val (.ref ad310), .val (.ref ad320), .val (.ref ad336), .unset, .unset] [(.int w8)])) _
            refine XS.ifYes X356.here hx rfl (pc0 := 212) (pc' := 222) rfl (hb hby at_212) rfl (XT.i0_eq_t c212_392) (by decide) (by decide) ?_
            exact k
          exact J3  T356 h356 _ fj2 sj2 (own_widen X356 (by decide) (by decide)) e356 N356 Z356 f357 f358 f359 f360 f361 f362  (own_finI ij2) (own_S3_no mj2 c212_392)
        · refine OwnWp.step (U' := T356.setTop (mkF m 215 #[.val (.int p1), .val (.int p2), .val (.int p3), .val (.int p4), .val (.int p5), .val (.int p6), .val (.int w1), .val (.int w2), .val (.int w3), .val (.int w4), .val (.int w5), .val (.int w6), .val (.int w7), .val (.int w8), .val (.int rm), .val (.ref ad310), .val (.ref ad320), .val (.ref ad336), .unset, .unset] [])) (fun t k => ?_) ?_
          · show Steps p.tables e below (T356.setTop (mkF m 212 #[.val (.int p1), .val (.int p2), .val (.int p3), .val (.int p4), .val (.int p5), .val (.int p6), .val (.int w1), .val (.int w2), .val (.int w3), .val (.int w4), .val (.int w5), .val (.int w6), .val (.int w7), .val (.int w8), .val (.int rm), .val (.ref ad310), .val (.ref ad320), .val (.ref ad336), .unset, .unset] [(.int w8)])) _
            refine XS.ifNo X356.here hx rfl (hb hby at_212) rfl (XT.i0_eq_f c212_392) ?_
            exact k
          refine OwnWp.step (U' := T356.setTop (mkF m 219 #[.val (.int p1), .val (.int p2), .val (.int p3), .val (.int p4), .val (.int p5), .val (.int p6), .val (.int w1), .val (.int w2), .val (.int w3), .val (.int w4), .val (.int w5), .val (.int w6), .val (.int w7), .val (.int w8), .val (.int rm), .val (.ref ad310), .val (.ref ad320), .val (.ref ad336), .unset, .unset] [(.int rm), (.ref ad336)])) (fun t k => ?_) ?_
          · show Steps p.tables e below (T356.setTop (mkF m 215 #[.val (.int p1), .val (.int p2), .val (.int p3), .val (.int p4), .val (.int p5), .val (.int p6), .val (.int w1), .val (.int w2), .val (.int w3), .val (.int w4), .val (.int w5), .val (.int w6), .val (.int w7), .val (.int w8), .val (.int rm), .val (.ref ad310), .val (.ref ad320), .val (.ref ad336), .unset, .unset] [])) _
            refine XS.aload X356.here hx rfl (hb hby at_215) rfl rfl ?_
            show Steps p.tables e below (T356.setTop (mkF m 217 #[.val (.int p1), .val (.int p2), .val (.int p3), .val (.int p4), .val (.int p5), .val (.int p6), .val (.int w1), .val (.int w2), .val (.int w3), .val (.int w4), .val (.int w5), .val (.int w6), .val (.int w7), .val (.int w8), .val (.int rm), .val (.ref ad310), .val (.ref ad320), .val (.ref ad336), .unset, .unset] [(.ref ad336)])) _
            refine XS.iload X356.here hx rfl (hb hby at_217) rfl ?_
            show Steps p.tables e below (T356.setTop (mkF m 219 #[.val (.int p1), .val (.int p2), .val (.int p3), .val (.int p4), .val (.int p5), .val (.int p6), .val (.int w1), .val (.int w2), .val (.int w3), .val (.int w4), .val (.int w5), .val (.int w6), .val (.int w7), .val (.int w8), .val (.int rm), .val (.ref ad310), .val (.ref ad320), .val (.ref ad336), .unset, .unset] [(.int rm), (.ref ad336)])) _
            exact k
          obtain ⟨cq393, kq393, qa393, qb393, qc393⟩ := isOf hZ e356 f359
          obtain ⟨_, _, ⟨T393, L393, k393, n393⟩, -, X393, ⟨Lc393, hQ393, l393, y393, z393⟩, st393⟩ := X356.virtualBack hx (y := (⟨"com/example/utu/utu/SlotNumbers", "remove", "(I)V"⟩ : MethodName)) (z := (⟨"com/example/utu/utu/SlotNumbers", "remove", "(I)V"⟩ : MethodName)) hown (mvT hZ (hw _ (List.mem_of_getElem? (i := 48) rfl))) (mvT hZ (hw _ (List.mem_of_getElem? (i := 49) rfl))) (notFace_of_selects (args := #[]) (mvT hZ (hw _ (List.mem_of_getElem? (i := 51) rfl)))) (mvT hZ (hw _ (List.mem_of_getElem? (i := 51) rfl))) (mvT hZ (hw _ (List.mem_of_getElem? (i := 50) rfl))) (by decide) (backOf (W := 0) (rm11 l Z a0 hw [] ad336 rm tj2 nj2 fj2 sj2 h356 n0 Z356 b336 lj2 na2 f359 f360 f361 f362 ij2 hrm) hZ (hw _ (List.mem_of_getElem? (i := 52) rfl)) (hw _ (List.mem_of_getElem? (i := 9) rfl)) (by decide) (by decide)) qa393 qc393 (g := (mkF m 219 #[.val (.int p1), .val (.int p2), .val (.int p3), .val (.int p4), .val (.int p5), .val (.int p6), .val (.int w1), .val (.int w2), .val (.int w3), .val (.int w4), .val (.int w5), .val (.int w6), .val (.int w7), .val (.int w8), .val (.int rm), .val (.ref ad310), .val (.ref ad320), .val (.ref ad336), .unset, .unset] [(.int rm), (.ref ad336)])) rfl (by rw [hml]; rfl) (Steps.refl _) (argsL := [(.int rm)]) (rest := []) (lenOf pd_11 rfl) rfl (by show 2 * 0 + _ ≤ _; exact Nat.le_of_eq rfl) (hb hby at_219) (fun _ _ => ⟨rfl, e356, (by dsimp only [Pt.cells]; decide), (by dsimp only [Pt.slots]; decide)⟩)
          dsimp only [Pt.U, Pt.locs, Pt.cells, Pt.slots] at X393 l393 y393 z393 st393 hQ393
          subst l393 y393 z393
          obtain ⟨rfl, Nc393, Kc393, ⟨fr393, sr393, ft393, fz393, at393, iv393, mm393⟩⟩ := hQ393
          have N393 := Fr.app N356 Nc393
          refine OwnWp.go st393 ?_
          have Z393 : n0 ≤ T393.heap.size := Nat.le_trans Z356 Kc393.1
          have f394 := OwnA.keep f357 Kc393 (ninS ne336_337 (ninS nb2 nin0))
          have f395 := OwnA.keep f358 Kc393 (ninS ne336_338 (ninS nc2 nin0))
          have f396 := Exa.keep f359 Kc393
          show OwnWp p e below s _ _ _ (T393.setTop (mkF m 222 #[.val (.int p1), .val (.int p2), .val (.int p3), .val (.int p4), .val (.int p5), .val (.int p6), .val (.int w1), .val (.int w2), .val (.int w3), .val (.int w4), .val (.int w5), .val (.int w6), .val (.int w7), .val (.int w8), .val (.int rm), .val (.ref ad310), .val (.ref ad320), .val (.ref ad336), .unset, .unset] []))
          exact J3  T393 T393.heap _ fr393 sr393 (own_widen X393 (by decide) (by decide)) (rfl : T393.heap = T393.heap) N393 Z393 f394 f395 f396 ft393 fz393 at393  iv393 (own_S3_yes mj2 mm393 c212_392)
      by_cases c200_400 : w6 = (0 : Int32)
      · refine OwnWp.step (U' := T349.setTop (mkF m 210 #[.val (.int p1), .val (.int p2), .val (.int p3), .val (.int p4), .val (.int p5), .val (.int p6), .val (.int w1), .val (.int w2), .val (.int w3), .val (.int w4), .val (.int w5), .val (.int w6), .val (.int w7), .val (.int w8), .val (.int rm), .val (.ref ad310), .val (.ref ad320), .val (.ref ad336), .unset, .unset] [])) (fun t k => ?_) ?_
        · show Steps p.tables e below (T349.setTop (mkF m 200 #[.val (.int p1), .val (.int p2), .val (.int p3), .val (.int p4), .val (.int p5), .val (.int p6), .val (.int w1), .val (.int w2), .val (.int w3), .val (.int w4), .val (.int w5), .val (.int w6), .val (.int w7), .val (.int w8), .val (.int rm), .val (.ref ad310), .val (.ref ad320), .val (.ref ad336), .unset, .unset] [(.int w6)])) _
          refine XS.ifYes X349.here hx rfl (pc0 := 200) (pc' := 210) rfl (hb hby at_200) rfl (XT.i0_eq_t c200_400) (by decide) (by decide) ?_
          exact k
        exact J2  T349 h349 _ tj1 nj1 fj1 sj1 (own_widen X349 (by decide) (by decide)) e349 N349 Z349 f350 f351 f352 f353 f354 f355  lj1 na1 nb1 nc1 ij1 (by omega) (own_S2_no mj1 c200_400)
      · refine OwnWp.step (U' := T349.setTop (mkF m 203 #[.val (.int p1), .val (.int p2), .val (.int p3), .val (.int p4), .val (.int p5), .val (.int p6), .val (.int w1), .val (.int w2), .val (.int w3), .val (.int w4), .val (.int w5), .val (.int w6), .val (.int w7), .val (.int w8), .val (.int rm), .val (.ref ad310), .val (.ref ad320), .val (.ref ad336), .unset, .unset] [])) (fun t k => ?_) ?_
        · show Steps p.tables e below (T349.setTop (mkF m 200 #[.val (.int p1), .val (.int p2), .val (.int p3), .val (.int p4), .val (.int p5), .val (.int p6), .val (.int w1), .val (.int w2), .val (.int w3), .val (.int w4), .val (.int w5), .val (.int w6), .val (.int w7), .val (.int w8), .val (.int rm), .val (.ref ad310), .val (.ref ad320), .val (.ref ad336), .unset, .unset] [(.int w6)])) _
          refine XS.ifNo X349.here hx rfl (hb hby at_200) rfl (XT.i0_eq_f c200_400) ?_
          exact k
        refine OwnWp.step (U' := T349.setTop (mkF m 207 #[.val (.int p1), .val (.int p2), .val (.int p3), .val (.int p4), .val (.int p5), .val (.int p6), .val (.int w1), .val (.int w2), .val (.int w3), .val (.int w4), .val (.int w5), .val (.int w6), .val (.int w7), .val (.int w8), .val (.int rm), .val (.ref ad310), .val (.ref ad320), .val (.ref ad336), .unset, .unset] [(.int w4), (.ref ad336)])) (fun t k => ?_) ?_
        · show Steps p.tables e below (T349.setTop (mkF m 203 #[.val (.int p1), .val (.int p2), .val (.int p3), .val (.int p4), .val (.int p5), .val (.int p6), .val (.int w1), .val (.int w2), .val (.int w3), .val (.int w4), .val (.int w5), .val (.int w6), .val (.int w7), .val (.int w8), .val (.int rm), .val (.ref ad310), .val (.ref ad320), .val (.ref ad336), .unset, .unset] [])) _
          refine XS.aload X349.here hx rfl (hb hby at_203) rfl rfl ?_
          show Steps p.tables e below (T349.setTop (mkF m 205 #[.val (.int p1), .val (.int p2), .val (.int p3), .val (.int p4), .val (.int p5), .val (.int p6), .val (.int w1), .val (.int w2), .val (.int w3), .val (.int w4), .val (.int w5), .val (.int w6), .val (.int w7), .val (.int w8), .val (.int rm), .val (.ref ad310), .val (.ref ad320), .val (.ref ad336), .unset, .unset] [(.ref ad336)])) _
          refine XS.iload X349.here hx rfl (hb hby at_205) rfl ?_
          show Steps p.tables e below (T349.setTop (mkF m 207 #[.val (.int p1), .val (.int p2), .val (.int p3), .val (.int p4), .val (.int p5), .val (.int p6), .val (.int w1), .val (.int w2), .val (.int w3), .val (.int w4), .val (.int w5), .val (.int w6), .val (.int w7), .val (.int w8), .val (.int rm), .val (.ref ad310), .val (.ref ad320), .val (.ref ad336), .unset, .unset] [(.int w4), (.ref ad336)])) _
          exact k
        obtain ⟨cq401, kq401, qa401, qb401, qc401⟩ := isOf hZ e349 f352
        obtain ⟨_, _, ⟨T401, L401, k401, n401⟩, -, X401, ⟨Lc401, hQ401, l401, y401, z401⟩, st401⟩ := X349.virtualBack hx (y := (⟨"com/example/utu/utu/SlotNumbers", "add", "(I)V"⟩ : MethodName)) (z := (⟨"com/example/utu/utu/SlotNumbers", "add", "(I)V"⟩ : MethodName)) hown (mvT hZ (hw _ (List.mem_of_getElem? (i := 41) rfl))) (mvT hZ (hw _ (List.mem_of_getElem? (i := 19) rfl))) (notFace_of_selects (args := #[]) (mvT hZ (hw _ (List.mem_of_getElem? (i := 21) rfl)))) (mvT hZ (hw _ (List.mem_of_getElem? (i := 21) rfl))) (mvT hZ (hw _ (List.mem_of_getElem? (i := 20) rfl))) (by decide) (backOf (W := 0) (rm4 l Z a0 hw [] ad336 w4 tj1 nj1 fj1 sj1 h349 n0 Z349 b336 lj1 na1 f352 f353 f354 f355 ij1 (by omega) zw4) hZ (hw _ (List.mem_of_getElem? (i := 22) rfl)) (hw _ (List.mem_of_getElem? (i := 9) rfl)) (by decide) (by decide)) qa401 qc401 (g := (mkF m 207 #[.val (.int p1), .val (.int p2), .val (.int p3), .val (.int p4), .val (.int p5), .val (.int p6), .val (.int w1), .val (.int w2), .val (.int w3), .val (.int w4), .val (.int w5), .val (.int w6), .val (.int w7), .val (.int w8), .val (.int rm), .val (.ref ad310), .val (.ref ad320), .val (.ref ad336), .unset, .unset] [(.int w4), (.ref ad336)])) rfl (by rw [hml]; rfl) (Steps.refl _) (argsL := [(.int w4)]) (rest := []) (lenOf pd_4 rfl) rfl (by show 2 * 0 + _ ≤ _; exact Nat.le_of_eq rfl) (hb hby at_207) (fun _ _ => ⟨rfl, e349, (by dsimp only [Pt.cells]; decide), (by dsimp only [Pt.slots]; decide)⟩)
        dsimp only [Pt.U, Pt.locs, Pt.cells, Pt.slots] at X401 l401 y401 z401 st401 hQ401
        subst l401 y401 z401
        obtain ⟨rfl, Nc401, Kc401, ⟨tb401, nn401, ff401, ss401, lt401, or401, ft401, fz401, at401, iv401, le401, mm401⟩⟩ := hQ401
        have N401 := Fr.app N349 Nc401
        refine OwnWp.go st401 ?_
        have Z401 : n0 ≤ T401.heap.size := Nat.le_trans Z349 Kc401.1
        have f402 := OwnA.keep f350 Kc401 (ninS ne336_337 (ninS nb1 nin0))
        have f403 := OwnA.keep f351 Kc401 (ninS ne336_338 (ninS nc1 nin0))
        have f404 := Exa.keep f352 Kc401
        show OwnWp p e below s _ _ _ (T401.setTop (mkF m 210 #[.val (.int p1), .val (.int p2), .val (.int p3), .val (.int p4), .val (.int p5), .val (.int p6), .val (.int w1), .val (.int w2), .val (.int w3), .val (.int w4), .val (.int w5), .val (.int w6), .val (.int w7), .val (.int w8), .val (.int rm), .val (.ref ad310), .val (.ref ad320), .val (.ref ad336), .unset, .unset] []))
        have no401_408 : ad336 ≠ tb401 := by rcases or401 with h9 | h9; (rw [h9]; exact na1); exact Nat.ne_of_lt (Nat.lt_of_lt_of_le (f352).lt h9)
        have no401_409 : ad310 ≠ tb401 := by rcases or401 with h9 | h9; (rw [h9]; exact nb1); exact Nat.ne_of_lt (Nat.lt_of_lt_of_le (f350).lt h9)
        have no401_410 : ad320 ≠ tb401 := by rcases or401 with h9 | h9; (rw [h9]; exact nc1); exact Nat.ne_of_lt (Nat.lt_of_lt_of_le (f351).lt h9)
        exact J2  T401 T401.heap _ tb401 nn401 ff401 ss401 (own_widen X401 (by decide) (by decide)) (rfl : T401.heap = T401.heap) N401 Z401 f402 f403 f404 ft401 fz401 at401  lt401 no401_408 no401_409 no401_410 iv401 (by omega) (own_S2_yes mj1 mm401 c200_400)
    by_cases c188_411 : w5 = (0 : Int32)
    · refine OwnWp.step (U' := T343.setTop (mkF m 198 #[.val (.int p1), .val (.int p2), .val (.int p3), .val (.int p4), .val (.int p5), .val (.int p6), .val (.int w1), .val (.int w2), .val (.int w3), .val (.int w4), .val (.int w5), .val (.int w6), .val (.int w7), .val (.int w8), .val (.int rm), .val (.ref ad310), .val (.ref ad320), .val (.ref ad336), .unset, .unset] [])) (fun t k => ?_) ?_
      · show Steps p.tables e below (T343.setTop (mkF m 188 #[.val (.int p1), .val (.int p2), .val (.int p3), .val (.int p4), .val (.int p5), .val (.int p6), .val (.int w1), .val (.int w2), .val (.int w3), .val (.int w4), .val (.int w5), .val (.int w6), .val (.int w7), .val (.int w8), .val (.int rm), .val (.ref ad310), .val (.ref ad320), .val (.ref ad336), .unset, .unset] [(.int w5)])) _
        refine XS.ifYes X343.here hx rfl (pc0 := 188) (pc' := 198) rfl (hb hby at_188) rfl (XT.i0_eq_t c188_411) (by decide) (by decide) ?_
        exact k
      exact J1  T343 T343.heap _ tb343 nn343 ff343 ss343 (own_widen X343 (by decide) (by decide)) (rfl : T343.heap = T343.heap) N343 Z343 f344 f345 f346 ft343 fz343 at343  lt343 na343 nz343_ad310 nz343_ad320 iv343 (by omega) (own_S1_no hm0 c188_411)
    · refine OwnWp.step (U' := T343.setTop (mkF m 191 #[.val (.int p1), .val (.int p2), .val (.int p3), .val (.int p4), .val (.int p5), .val (.int p6), .val (.int w1), .val (.int w2), .val (.int w3), .val (.int w4), .val (.int w5), .val (.int w6), .val (.int w7), .val (.int w8), .val (.int rm), .val (.ref ad310), .val (.ref ad320), .val (.ref ad336), .unset, .unset] [])) (fun t k => ?_) ?_
      · show Steps p.tables e below (T343.setTop (mkF m 188 #[.val (.int p1), .val (.int p2), .val (.int p3), .val (.int p4), .val (.int p5), .val (.int p6), .val (.int w1), .val (.int w2), .val (.int w3), .val (.int w4), .val (.int w5), .val (.int w6), .val (.int w7), .val (.int w8), .val (.int rm), .val (.ref ad310), .val (.ref ad320), .val (.ref ad336), .unset, .unset] [(.int w5)])) _
        refine XS.ifNo X343.here hx rfl (hb hby at_188) rfl (XT.i0_eq_f c188_411) ?_
        exact k
      refine OwnWp.step (U' := T343.setTop (mkF m 195 #[.val (.int p1), .val (.int p2), .val (.int p3), .val (.int p4), .val (.int p5), .val (.int p6), .val (.int w1), .val (.int w2), .val (.int w3), .val (.int w4), .val (.int w5), .val (.int w6), .val (.int w7), .val (.int w8), .val (.int rm), .val (.ref ad310), .val (.ref ad320), .val (.ref ad336), .unset, .unset] [(.int w3), (.ref ad336)])) (fun t k => ?_) ?_
      · show Steps p.tables e below (T343.setTop (mkF m 191 #[.val (.int p1), .val (.int p2), .val (.int p3), .val (.int p4), .val (.int p5), .val (.int p6), .val (.int w1), .val (.int w2), .val (.int w3), .val (.int w4), .val (.int w5), .val (.int w6), .val (.int w7), .val (.int w8), .val (.int rm), .val (.ref ad310), .val (.ref ad320), .val (.ref ad336), .unset, .unset] [])) _
        refine XS.aload X343.here hx rfl (hb hby at_191) rfl rfl ?_
        show Steps p.tables e below (T343.setTop (mkF m 193 #[.val (.int p1), .val (.int p2), .val (.int p3), .val (.int p4), .val (.int p5), .val (.int p6), .val (.int w1), .val (.int w2), .val (.int w3), .val (.int w4), .val (.int w5), .val (.int w6), .val (.int w7), .val (.int w8), .val (.int rm), .val (.ref ad310), .val (.ref ad320), .val (.ref ad336), .unset, .unset] [(.ref ad336)])) _
        refine XS.iload X343.here hx rfl (hb hby at_193) rfl ?_
        show Steps p.tables e below (T343.setTop (mkF m 195 #[.val (.int p1), .val (.int p2), .val (.int p3), .val (.int p4), .val (.int p5), .val (.int p6), .val (.int w1), .val (.int w2), .val (.int w3), .val (.int w4), .val (.int w5), .val (.int w6), .val (.int w7), .val (.int w8), .val (.int rm), .val (.ref ad310), .val (.ref ad320), .val (.ref ad336), .unset, .unset] [(.int w3), (.ref ad336)])) _
        exact k
      obtain ⟨cq412, kq412, qa412, qb412, qc412⟩ := isOf hZ (rfl : T343.heap = T343.heap) f346
      obtain ⟨_, _, ⟨T412, L412, k412, n412⟩, -, X412, ⟨Lc412, hQ412, l412, y412, z412⟩, st412⟩ := X343.virtualBack hx (y := (⟨"com/example/utu/utu/SlotNumbers", "add", "(I)V"⟩ : MethodName)) (z := (⟨"com/example/utu/utu/SlotNumbers", "add", "(I)V"⟩ : MethodName)) hown (mvT hZ (hw _ (List.mem_of_getElem? (i := 41) rfl))) (mvT hZ (hw _ (List.mem_of_getElem? (i := 19) rfl))) (notFace_of_selects (args := #[]) (mvT hZ (hw _ (List.mem_of_getElem? (i := 21) rfl)))) (mvT hZ (hw _ (List.mem_of_getElem? (i := 21) rfl))) (mvT hZ (hw _ (List.mem_of_getElem? (i := 20) rfl))) (by decide) (backOf (W := 0) (rm4 l Z a0 hw [] ad336 w3 tb343 nn343 ff343 ss343 T343.heap n0 Z343 b336 lt343 na343 f346 ft343 fz343 at343 iv343 (by omega) zw3) hZ (hw _ (List.mem_of_getElem? (i := 22) rfl)) (hw _ (List.mem_of_getElem? (i := 9) rfl)) (by decide) (by decide)) qa412 qc412 (g := (mkF m 195 #[.val (.int p1), .val (.int p2), .val (.int p3), .val (.int p4), .val (.int p5), .val (.int p6), .val (.int w1), .val (.int w2), .val (.int w3), .val (.int w4), .val (.int w5), .val (.int w6), .val (.int w7), .val (.int w8), .val (.int rm), .val (.ref ad310), .val (.ref ad320), .val (.ref ad336), .unset, .unset] [(.int w3), (.ref ad336)])) rfl (by rw [hml]; rfl) (Steps.refl _) (argsL := [(.int w3)]) (rest := []) (lenOf pd_4 rfl) rfl (by show 2 * 0 + _ ≤ _; exact Nat.le_of_eq rfl) (hb hby at_195) (fun _ _ => ⟨rfl, (rfl : T343.heap = T343.heap), (by dsimp only [Pt.cells]; decide), (by dsimp only [Pt.slots]; decide)⟩)
      dsimp only [Pt.U, Pt.locs, Pt.cells, Pt.slots] at X412 l412 y412 z412 st412 hQ412
      subst l412 y412 z412
      obtain ⟨rfl, Nc412, Kc412, ⟨tb412, nn412, ff412, ss412, lt412, or412, ft412, fz412, at412, iv412, le412, mm412⟩⟩ := hQ412
      have N412 := Fr.app N343 Nc412
      refine OwnWp.go st412 ?_
      have Z412 : n0 ≤ T412.heap.size := Nat.le_trans Z343 Kc412.1
      have f413 := OwnA.keep f344 Kc412 (ninS ne336_337 (ninS nz343_ad310 nin0))
      have f414 := OwnA.keep f345 Kc412 (ninS ne336_338 (ninS nz343_ad320 nin0))
      have f415 := Exa.keep f346 Kc412
      show OwnWp p e below s _ _ _ (T412.setTop (mkF m 198 #[.val (.int p1), .val (.int p2), .val (.int p3), .val (.int p4), .val (.int p5), .val (.int p6), .val (.int w1), .val (.int w2), .val (.int w3), .val (.int w4), .val (.int w5), .val (.int w6), .val (.int w7), .val (.int w8), .val (.int rm), .val (.ref ad310), .val (.ref ad320), .val (.ref ad336), .unset, .unset] []))
      have no412_419 : ad336 ≠ tb412 := by rcases or412 with h9 | h9; (rw [h9]; exact na343); exact Nat.ne_of_lt (Nat.lt_of_lt_of_le (f346).lt h9)
      have no412_420 : ad310 ≠ tb412 := by rcases or412 with h9 | h9; (rw [h9]; exact nz343_ad310); exact Nat.ne_of_lt (Nat.lt_of_lt_of_le (f344).lt h9)
      have no412_421 : ad320 ≠ tb412 := by rcases or412 with h9 | h9; (rw [h9]; exact nz343_ad320); exact Nat.ne_of_lt (Nat.lt_of_lt_of_le (f345).lt h9)
      exact J1  T412 T412.heap _ tb412 nn412 ff412 ss412 (own_widen X412 (by decide) (by decide)) (rfl : T412.heap = T412.heap) N412 Z412 f413 f414 f415 ft412 fz412 at412  lt412 no412_419 no412_420 no412_421 iv412 (by omega) (own_S1_yes hm0 mm412 c188_411)
  by_cases c77_422 : w7 = (0 : Int32)
  · refine OwnWp.step (U' := T305.setTop (mkF m 80 #[.val (.int p1), .val (.int p2), .val (.int p3), .val (.int p4), .val (.int p5), .val (.int p6), .val (.int w1), .val (.int w2), .val (.int w3), .val (.int w4), .val (.int w5), .val (.int w6), .val (.int w7), .val (.int w8), .unset, .unset, .unset, .unset, .unset, .unset] [])) (fun t k => ?_) ?_
    · show Steps p.tables e below (T305.setTop (mkF m 77 #[.val (.int p1), .val (.int p2), .val (.int p3), .val (.int p4), .val (.int p5), .val (.int p6), .val (.int w1), .val (.int w2), .val (.int w3), .val (.int w4), .val (.int w5), .val (.int w6), .val (.int w7), .val (.int w8), .unset, .unset, .unset, .unset, .unset, .unset] [(.int w7)])) _
      refine XS.ifNo X305.here hx rfl (hb hby at_77) rfl (XT.i0_ne_f c77_422) ?_
      exact k
    refine OwnWp.step (U' := T305.setTop (mkF m 123 #[.val (.int p1), .val (.int p2), .val (.int p3), .val (.int p4), .val (.int p5), .val (.int p6), .val (.int w1), .val (.int w2), .val (.int w3), .val (.int w4), .val (.int w5), .val (.int w6), .val (.int w7), .val (.int w8), .unset, .unset, .unset, .unset, .unset, .unset] [(.int w1)])) (fun t k => ?_) ?_
    · show Steps p.tables e below (T305.setTop (mkF m 80 #[.val (.int p1), .val (.int p2), .val (.int p3), .val (.int p4), .val (.int p5), .val (.int p6), .val (.int w1), .val (.int w2), .val (.int w3), .val (.int w4), .val (.int w5), .val (.int w6), .val (.int w7), .val (.int w8), .unset, .unset, .unset, .unset, .unset, .unset] [])) _
      refine XS.iload X305.here hx rfl (hb hby at_80) rfl ?_
      show Steps p.tables e below (T305.setTop (mkF m 82 #[.val (.int p1), .val (.int p2), .val (.int p3), .val (.int p4), .val (.int p5), .val (.int p6), .val (.int w1), .val (.int w2), .val (.int w3), .val (.int w4), .val (.int w5), .val (.int w6), .val (.int w7), .val (.int w8), .unset, .unset, .unset, .unset, .unset, .unset] [(.int w1)])) _
      refine XS.goto X305.here hx rfl (pc0 := 82) (pc' := 123) rfl (hb hby at_82) (by decide) (by decide) ?_
      show Steps p.tables e below (T305.setTop (mkF m 123 #[.val (.int p1), .val (.int p2), .val (.int p3), .val (.int p4), .val (.int p5), .val (.int p6), .val (.int w1), .val (.int w2), .val (.int w3), .val (.int w4), .val (.int w5), .val (.int w6), .val (.int w7), .val (.int w8), .unset, .unset, .unset, .unset, .unset, .unset] [(.int w1)])) _
      exact k
    exact J  T305 h0 _ w1 X305 eh305 N305 Z0   zw1
  · refine OwnWp.step (U' := T305.setTop (mkF m 85 #[.val (.int p1), .val (.int p2), .val (.int p3), .val (.int p4), .val (.int p5), .val (.int p6), .val (.int w1), .val (.int w2), .val (.int w3), .val (.int w4), .val (.int w5), .val (.int w6), .val (.int w7), .val (.int w8), .unset, .unset, .unset, .unset, .unset, .unset] [])) (fun t k => ?_) ?_
    · show Steps p.tables e below (T305.setTop (mkF m 77 #[.val (.int p1), .val (.int p2), .val (.int p3), .val (.int p4), .val (.int p5), .val (.int p6), .val (.int w1), .val (.int w2), .val (.int w3), .val (.int w4), .val (.int w5), .val (.int w6), .val (.int w7), .val (.int w8), .unset, .unset, .unset, .unset, .unset, .unset] [(.int w7)])) _
      refine XS.ifYes X305.here hx rfl (pc0 := 77) (pc' := 85) rfl (hb hby at_77) rfl (XT.i0_ne_t c77_422) (by decide) (by decide) ?_
      exact k
    refine OwnWp.step (U' := T305.setTop (mkF m 88 #[.val (.int p1), .val (.int p2), .val (.int p3), .val (.int p4), .val (.int p5), .val (.int p6), .val (.int w1), .val (.int w2), .val (.int w3), .val (.int w4), .val (.int w5), .val (.int w6), .val (.int w7), .val (.int w8), .unset, .unset, .unset, .unset, .unset, .unset] [(.int (1 : Int32)), (.int w7)])) (fun t k => ?_) ?_
    · show Steps p.tables e below (T305.setTop (mkF m 85 #[.val (.int p1), .val (.int p2), .val (.int p3), .val (.int p4), .val (.int p5), .val (.int p6), .val (.int w1), .val (.int w2), .val (.int w3), .val (.int w4), .val (.int w5), .val (.int w6), .val (.int w7), .val (.int w8), .unset, .unset, .unset, .unset, .unset, .unset] [])) _
      refine XS.iload X305.here hx rfl (hb hby at_85) rfl ?_
      show Steps p.tables e below (T305.setTop (mkF m 87 #[.val (.int p1), .val (.int p2), .val (.int p3), .val (.int p4), .val (.int p5), .val (.int p6), .val (.int w1), .val (.int w2), .val (.int w3), .val (.int w4), .val (.int w5), .val (.int w6), .val (.int w7), .val (.int w8), .unset, .unset, .unset, .unset, .unset, .unset] [(.int w7)])) _
      refine XT.iconstV X305.here hx rfl (1 : Int32) (hb hby at_87) rfl ?_
      show Steps p.tables e below (T305.setTop (mkF m 88 #[.val (.int p1), .val (.int p2), .val (.int p3), .val (.int p4), .val (.int p5), .val (.int p6), .val (.int w1), .val (.int w2), .val (.int w3), .val (.int w4), .val (.int w5), .val (.int w6), .val (.int w7), .val (.int w8), .unset, .unset, .unset, .unset, .unset, .unset] [(.int (1 : Int32)), (.int w7)])) _
      exact k
    by_cases c88_423 : w7 = (1 : Int32)
    · refine OwnWp.step (U' := T305.setTop (mkF m 91 #[.val (.int p1), .val (.int p2), .val (.int p3), .val (.int p4), .val (.int p5), .val (.int p6), .val (.int w1), .val (.int w2), .val (.int w3), .val (.int w4), .val (.int w5), .val (.int w6), .val (.int w7), .val (.int w8), .unset, .unset, .unset, .unset, .unset, .unset] [])) (fun t k => ?_) ?_
      · show Steps p.tables e below (T305.setTop (mkF m 88 #[.val (.int p1), .val (.int p2), .val (.int p3), .val (.int p4), .val (.int p5), .val (.int p6), .val (.int w1), .val (.int w2), .val (.int w3), .val (.int w4), .val (.int w5), .val (.int w6), .val (.int w7), .val (.int w8), .unset, .unset, .unset, .unset, .unset, .unset] [(.int (1 : Int32)), (.int w7)])) _
        refine XS.icmpNo X305.here hx rfl (hb hby at_88) rfl (XT.ii_ne_f c88_423) ?_
        exact k
      refine OwnWp.step (U' := T305.setTop (mkF m 123 #[.val (.int p1), .val (.int p2), .val (.int p3), .val (.int p4), .val (.int p5), .val (.int p6), .val (.int w1), .val (.int w2), .val (.int w3), .val (.int w4), .val (.int w5), .val (.int w6), .val (.int w7), .val (.int w8), .unset, .unset, .unset, .unset, .unset, .unset] [(.int w2)])) (fun t k => ?_) ?_
      · show Steps p.tables e below (T305.setTop (mkF m 91 #[.val (.int p1), .val (.int p2), .val (.int p3), .val (.int p4), .val (.int p5), .val (.int p6), .val (.int w1), .val (.int w2), .val (.int w3), .val (.int w4), .val (.int w5), .val (.int w6), .val (.int w7), .val (.int w8), .unset, .unset, .unset, .unset, .unset, .unset] [])) _
        refine XS.iload X305.here hx rfl (hb hby at_91) rfl ?_
        show Steps p.tables e below (T305.setTop (mkF m 93 #[.val (.int p1), .val (.int p2), .val (.int p3), .val (.int p4), .val (.int p5), .val (.int p6), .val (.int w1), .val (.int w2), .val (.int w3), .val (.int w4), .val (.int w5), .val (.int w6), .val (.int w7), .val (.int w8), .unset, .unset, .unset, .unset, .unset, .unset] [(.int w2)])) _
        refine XS.goto X305.here hx rfl (pc0 := 93) (pc' := 123) rfl (hb hby at_93) (by decide) (by decide) ?_
        show Steps p.tables e below (T305.setTop (mkF m 123 #[.val (.int p1), .val (.int p2), .val (.int p3), .val (.int p4), .val (.int p5), .val (.int p6), .val (.int w1), .val (.int w2), .val (.int w3), .val (.int w4), .val (.int w5), .val (.int w6), .val (.int w7), .val (.int w8), .unset, .unset, .unset, .unset, .unset, .unset] [(.int w2)])) _
        exact k
      exact J  T305 h0 _ w2 X305 eh305 N305 Z0   zw2
    · refine OwnWp.step (U' := T305.setTop (mkF m 96 #[.val (.int p1), .val (.int p2), .val (.int p3), .val (.int p4), .val (.int p5), .val (.int p6), .val (.int w1), .val (.int w2), .val (.int w3), .val (.int w4), .val (.int w5), .val (.int w6), .val (.int w7), .val (.int w8), .unset, .unset, .unset, .unset, .unset, .unset] [])) (fun t k => ?_) ?_
      · show Steps p.tables e below (T305.setTop (mkF m 88 #[.val (.int p1), .val (.int p2), .val (.int p3), .val (.int p4), .val (.int p5), .val (.int p6), .val (.int w1), .val (.int w2), .val (.int w3), .val (.int w4), .val (.int w5), .val (.int w6), .val (.int w7), .val (.int w8), .unset, .unset, .unset, .unset, .unset, .unset] [(.int (1 : Int32)), (.int w7)])) _
        refine XS.icmpYes X305.here hx rfl (pc0 := 88) (pc' := 96) rfl (hb hby at_88) rfl (XT.ii_ne_t c88_423) (by decide) (by decide) ?_
        exact k
      refine OwnWp.step (U' := T305.setTop (mkF m 99 #[.val (.int p1), .val (.int p2), .val (.int p3), .val (.int p4), .val (.int p5), .val (.int p6), .val (.int w1), .val (.int w2), .val (.int w3), .val (.int w4), .val (.int w5), .val (.int w6), .val (.int w7), .val (.int w8), .unset, .unset, .unset, .unset, .unset, .unset] [(.int (2 : Int32)), (.int w7)])) (fun t k => ?_) ?_
      · show Steps p.tables e below (T305.setTop (mkF m 96 #[.val (.int p1), .val (.int p2), .val (.int p3), .val (.int p4), .val (.int p5), .val (.int p6), .val (.int w1), .val (.int w2), .val (.int w3), .val (.int w4), .val (.int w5), .val (.int w6), .val (.int w7), .val (.int w8), .unset, .unset, .unset, .unset, .unset, .unset] [])) _
        refine XS.iload X305.here hx rfl (hb hby at_96) rfl ?_
        show Steps p.tables e below (T305.setTop (mkF m 98 #[.val (.int p1), .val (.int p2), .val (.int p3), .val (.int p4), .val (.int p5), .val (.int p6), .val (.int w1), .val (.int w2), .val (.int w3), .val (.int w4), .val (.int w5), .val (.int w6), .val (.int w7), .val (.int w8), .unset, .unset, .unset, .unset, .unset, .unset] [(.int w7)])) _
        refine XT.iconstV X305.here hx rfl (2 : Int32) (hb hby at_98) rfl ?_
        show Steps p.tables e below (T305.setTop (mkF m 99 #[.val (.int p1), .val (.int p2), .val (.int p3), .val (.int p4), .val (.int p5), .val (.int p6), .val (.int w1), .val (.int w2), .val (.int w3), .val (.int w4), .val (.int w5), .val (.int w6), .val (.int w7), .val (.int w8), .unset, .unset, .unset, .unset, .unset, .unset] [(.int (2 : Int32)), (.int w7)])) _
        exact k
      by_cases c99_424 : w7 = (2 : Int32)
      · refine OwnWp.step (U' := T305.setTop (mkF m 102 #[.val (.int p1), .val (.int p2), .val (.int p3), .val (.int p4), .val (.int p5), .val (.int p6), .val (.int w1), .val (.int w2), .val (.int w3), .val (.int w4), .val (.int w5), .val (.int w6), .val (.int w7), .val (.int w8), .unset, .unset, .unset, .unset, .unset, .unset] [])) (fun t k => ?_) ?_
        · show Steps p.tables e below (T305.setTop (mkF m 99 #[.val (.int p1), .val (.int p2), .val (.int p3), .val (.int p4), .val (.int p5), .val (.int p6), .val (.int w1), .val (.int w2), .val (.int w3), .val (.int w4), .val (.int w5), .val (.int w6), .val (.int w7), .val (.int w8), .unset, .unset, .unset, .unset, .unset, .unset] [(.int (2 : Int32)), (.int w7)])) _
          refine XS.icmpNo X305.here hx rfl (hb hby at_99) rfl (XT.ii_ne_f c99_424) ?_
          exact k
        refine OwnWp.step (U' := T305.setTop (mkF m 123 #[.val (.int p1), .val (.int p2), .val (.int p3), .val (.int p4), .val (.int p5), .val (.int p6), .val (.int w1), .val (.int w2), .val (.int w3), .val (.int w4), .val (.int w5), .val (.int w6), .val (.int w7), .val (.int w8), .unset, .unset, .unset, .unset, .unset, .unset] [(.int w3)])) (fun t k => ?_) ?_
        · show Steps p.tables e below (T305.setTop (mkF m 102 #[.val (.int p1), .val (.int p2), .val (.int p3), .val (.int p4), .val (.int p5), .val (.int p6), .val (.int w1), .val (.int w2), .val (.int w3), .val (.int w4), .val (.int w5), .val (.int w6), .val (.int w7), .val (.int w8), .unset, .unset, .unset, .unset, .unset, .unset] [])) _
          refine XS.iload X305.here hx rfl (hb hby at_102) rfl ?_
          show Steps p.tables e below (T305.setTop (mkF m 104 #[.val (.int p1), .val (.int p2), .val (.int p3), .val (.int p4), .val (.int p5), .val (.int p6), .val (.int w1), .val (.int w2), .val (.int w3), .val (.int w4), .val (.int w5), .val (.int w6), .val (.int w7), .val (.int w8), .unset, .unset, .unset, .unset, .unset, .unset] [(.int w3)])) _
          refine XS.goto X305.here hx rfl (pc0 := 104) (pc' := 123) rfl (hb hby at_104) (by decide) (by decide) ?_
          show Steps p.tables e below (T305.setTop (mkF m 123 #[.val (.int p1), .val (.int p2), .val (.int p3), .val (.int p4), .val (.int p5), .val (.int p6), .val (.int w1), .val (.int w2), .val (.int w3), .val (.int w4), .val (.int w5), .val (.int w6), .val (.int w7), .val (.int w8), .unset, .unset, .unset, .unset, .unset, .unset] [(.int w3)])) _
          exact k
        exact J  T305 h0 _ w3 X305 eh305 N305 Z0   zw3
      · refine OwnWp.step (U' := T305.setTop (mkF m 107 #[.val (.int p1), .val (.int p2), .val (.int p3), .val (.int p4), .val (.int p5), .val (.int p6), .val (.int w1), .val (.int w2), .val (.int w3), .val (.int w4), .val (.int w5), .val (.int w6), .val (.int w7), .val (.int w8), .unset, .unset, .unset, .unset, .unset, .unset] [])) (fun t k => ?_) ?_
        · show Steps p.tables e below (T305.setTop (mkF m 99 #[.val (.int p1), .val (.int p2), .val (.int p3), .val (.int p4), .val (.int p5), .val (.int p6), .val (.int w1), .val (.int w2), .val (.int w3), .val (.int w4), .val (.int w5), .val (.int w6), .val (.int w7), .val (.int w8), .unset, .unset, .unset, .unset, .unset, .unset] [(.int (2 : Int32)), (.int w7)])) _
          refine XS.icmpYes X305.here hx rfl (pc0 := 99) (pc' := 107) rfl (hb hby at_99) rfl (XT.ii_ne_t c99_424) (by decide) (by decide) ?_
          exact k
        refine OwnWp.step (U' := T305.setTop (mkF m 110 #[.val (.int p1), .val (.int p2), .val (.int p3), .val (.int p4), .val (.int p5), .val (.int p6), .val (.int w1), .val (.int w2), .val (.int w3), .val (.int w4), .val (.int w5), .val (.int w6), .val (.int w7), .val (.int w8), .unset, .unset, .unset, .unset, .unset, .unset] [(.int (3 : Int32)), (.int w7)])) (fun t k => ?_) ?_
        · show Steps p.tables e below (T305.setTop (mkF m 107 #[.val (.int p1), .val (.int p2), .val (.int p3), .val (.int p4), .val (.int p5), .val (.int p6), .val (.int w1), .val (.int w2), .val (.int w3), .val (.int w4), .val (.int w5), .val (.int w6), .val (.int w7), .val (.int w8), .unset, .unset, .unset, .unset, .unset, .unset] [])) _
          refine XS.iload X305.here hx rfl (hb hby at_107) rfl ?_
          show Steps p.tables e below (T305.setTop (mkF m 109 #[.val (.int p1), .val (.int p2), .val (.int p3), .val (.int p4), .val (.int p5), .val (.int p6), .val (.int w1), .val (.int w2), .val (.int w3), .val (.int w4), .val (.int w5), .val (.int w6), .val (.int w7), .val (.int w8), .unset, .unset, .unset, .unset, .unset, .unset] [(.int w7)])) _
          refine XT.iconstV X305.here hx rfl (3 : Int32) (hb hby at_109) rfl ?_
          show Steps p.tables e below (T305.setTop (mkF m 110 #[.val (.int p1), .val (.int p2), .val (.int p3), .val (.int p4), .val (.int p5), .val (.int p6), .val (.int w1), .val (.int w2), .val (.int w3), .val (.int w4), .val (.int w5), .val (.int w6), .val (.int w7), .val (.int w8), .unset, .unset, .unset, .unset, .unset, .unset] [(.int (3 : Int32)), (.int w7)])) _
          exact k
        by_cases c110_425 : w7 = (3 : Int32)
        · refine OwnWp.step (U' := T305.setTop (mkF m 113 #[.val (.int p1), .val (.int p2), .val (.int p3), .val (.int p4), .val (.int p5), .val (.int p6), .val (.int w1), .val (.int w2), .val (.int w3), .val (.int w4), .val (.int w5), .val (.int w6), .val (.int w7), .val (.int w8), .unset, .unset, .unset, .unset, .unset, .unset] [])) (fun t k => ?_) ?_
          · show Steps p.tables e below (T305.setTop (mkF m 110 #[.val (.int p1), .val (.int p2), .val (.int p3), .val (.int p4), .val (.int p5), .val (.int p6), .val (.int w1), .val (.int w2), .val (.int w3), .val (.int w4), .val (.int w5), .val (.int w6), .val (.int w7), .val (.int w8), .unset, .unset, .unset, .unset, .unset, .unset] [(.int (3 : Int32)), (.int w7)])) _
            refine XS.icmpNo X305.here hx rfl (hb hby at_110) rfl (XT.ii_ne_f c110_425) ?_
            exact k
          refine OwnWp.step (U' := T305.setTop (mkF m 123 #[.val (.int p1), .val (.int p2), .val (.int p3), .val (.int p4), .val (.int p5), .val (.int p6), .val (.int w1), .val (.int w2), .val (.int w3), .val (.int w4), .val (.int w5), .val (.int w6), .val (.int w7), .val (.int w8), .unset, .unset, .unset, .unset, .unset, .unset] [(.int w4)])) (fun t k => ?_) ?_
          · show Steps p.tables e below (T305.setTop (mkF m 113 #[.val (.int p1), .val (.int p2), .val (.int p3), .val (.int p4), .val (.int p5), .val (.int p6), .val (.int w1), .val (.int w2), .val (.int w3), .val (.int w4), .val (.int w5), .val (.int w6), .val (.int w7), .val (.int w8), .unset, .unset, .unset, .unset, .unset, .unset] [])) _
            refine XS.iload X305.here hx rfl (hb hby at_113) rfl ?_
            show Steps p.tables e below (T305.setTop (mkF m 115 #[.val (.int p1), .val (.int p2), .val (.int p3), .val (.int p4), .val (.int p5), .val (.int p6), .val (.int w1), .val (.int w2), .val (.int w3), .val (.int w4), .val (.int w5), .val (.int w6), .val (.int w7), .val (.int w8), .unset, .unset, .unset, .unset, .unset, .unset] [(.int w4)])) _
            refine XS.goto X305.here hx rfl (pc0 := 115) (pc' := 123) rfl (hb hby at_115) (by decide) (by decide) ?_
            show Steps p.tables e below (T305.setTop (mkF m 123 #[.val (.int p1), .val (.int p2), .val (.int p3), .val (.int p4), .val (.int p5), .val (.int p6), .val (.int w1), .val (.int w2), .val (.int w3), .val (.int w4), .val (.int w5), .val (.int w6), .val (.int w7), .val (.int w8), .unset, .unset, .unset, .unset, .unset, .unset] [(.int w4)])) _
            exact k
          exact J  T305 h0 _ w4 X305 eh305 N305 Z0   zw4
        · refine OwnWp.step (U' := T305.setTop (mkF m 118 #[.val (.int p1), .val (.int p2), .val (.int p3), .val (.int p4), .val (.int p5), .val (.int p6), .val (.int w1), .val (.int w2), .val (.int w3), .val (.int w4), .val (.int w5), .val (.int w6), .val (.int w7), .val (.int w8), .unset, .unset, .unset, .unset, .unset, .unset] [])) (fun t k => ?_) ?_
          · show Steps p.tables e below (T305.setTop (mkF m 110 #[.val (.int p1), .val (.int p2), .val (.int p3), .val (.int p4), .val (.int p5), .val (.int p6), .val (.int w1), .val (.int w2), .val (.int w3), .val (.int w4), .val (.int w5), .val (.int w6), .val (.int w7), .val (.int w8), .unset, .unset, .unset, .unset, .unset, .unset] [(.int (3 : Int32)), (.int w7)])) _
            refine XS.icmpYes X305.here hx rfl (pc0 := 110) (pc' := 118) rfl (hb hby at_110) rfl (XT.ii_ne_t c110_425) (by decide) (by decide) ?_
            exact k
          refine OwnWp.step (U' := T305.setTop (mkF m 120 #[.val (.int p1), .val (.int p2), .val (.int p3), .val (.int p4), .val (.int p5), .val (.int p6), .val (.int w1), .val (.int w2), .val (.int w3), .val (.int w4), .val (.int w5), .val (.int w6), .val (.int w7), .val (.int w8), .unset, .unset, .unset, .unset, .unset, .unset] [(.int p5)])) (fun t k => ?_) ?_
          · show Steps p.tables e below (T305.setTop (mkF m 118 #[.val (.int p1), .val (.int p2), .val (.int p3), .val (.int p4), .val (.int p5), .val (.int p6), .val (.int w1), .val (.int w2), .val (.int w3), .val (.int w4), .val (.int w5), .val (.int w6), .val (.int w7), .val (.int w8), .unset, .unset, .unset, .unset, .unset, .unset] [])) _
            refine XS.iload X305.here hx rfl (hb hby at_118) rfl ?_
            show Steps p.tables e below (T305.setTop (mkF m 120 #[.val (.int p1), .val (.int p2), .val (.int p3), .val (.int p4), .val (.int p5), .val (.int p6), .val (.int w1), .val (.int w2), .val (.int w3), .val (.int w4), .val (.int w5), .val (.int w6), .val (.int w7), .val (.int w8), .unset, .unset, .unset, .unset, .unset, .unset] [(.int p5)])) _
            exact k
          show OwnWp p e below s _ _ _ (T305.setTop (mkF m 120 #[.val (.int p1), .val (.int p2), .val (.int p3), .val (.int p4), .val (.int p5), .val (.int p6), .val (.int w1), .val (.int w2), .val (.int w3), .val (.int w4), .val (.int w5), .val (.int w6), .val (.int w7), .val (.int w8), .unset, .unset, .unset, .unset, .unset, .unset] [(.int p5)]))
          obtain ⟨_, _, ⟨T426, L426, k426, n426⟩, -, X426, ⟨Lc426, hQ426, l426, y426, z426⟩, st426⟩ := Jvm.LawKit.callS X305 hx (y := (⟨"com/example/utu/utu/SlotNumbersToArrayPinLaw", "pos", "(I)I"⟩ : MethodName)) hown (mvT hZ (hw _ (List.mem_of_getElem? (i := 0) rfl))) (mvT hZ (hw _ (List.mem_of_getElem? (i := 1) rfl))) (mvT hZ (hw _ (List.mem_of_getElem? (i := 2) rfl))) (mvT hZ (hw _ (List.mem_of_getElem? (i := 3) rfl))) (by decide) (backOf (W := 0) (rm1 l Z a0 hw [] p5 h0 n0 Z0 ) hZ (hw _ (List.mem_of_getElem? (i := 3) rfl)) (hw _ (List.mem_of_getElem? (i := 2) rfl)) (by decide) (by decide)) (g := (mkF m 120 #[.val (.int p1), .val (.int p2), .val (.int p3), .val (.int p4), .val (.int p5), .val (.int p6), .val (.int w1), .val (.int w2), .val (.int w3), .val (.int w4), .val (.int w5), .val (.int w6), .val (.int w7), .val (.int w8), .unset, .unset, .unset, .unset, .unset, .unset] [(.int p5)])) rfl (by rw [hml]; rfl) (argsL := [(.int p5)]) (rest := []) (lenOf pd_1 rfl) rfl (by show 2 * 0 + _ ≤ _; exact Nat.le_of_eq rfl) (hb hby at_120) (fun _ _ => ⟨rfl, eh305, (by dsimp only [Pt.cells]; decide), (by dsimp only [Pt.slots]; decide)⟩)
          dsimp only [Pt.U, Pt.locs, Pt.cells, Pt.slots] at X426 l426 y426 z426 st426 hQ426
          subst l426 y426 z426
          obtain ⟨rfl, Nc426, hp426⟩ := hQ426
          have N426 := Fr.app N305 Nc426
          refine OwnWp.step st426 ?_
          have eh426 : T426.heap = h0 := hp426
          show OwnWp p e below s _ _ _ (T426.setTop (mkF m 123 #[.val (.int p1), .val (.int p2), .val (.int p3), .val (.int p4), .val (.int p5), .val (.int p6), .val (.int w1), .val (.int w2), .val (.int w3), .val (.int w4), .val (.int w5), .val (.int w6), .val (.int w7), .val (.int w8), .unset, .unset, .unset, .unset, .unset, .unset] [(.int (own_pos p5))]))
          exact J  T426 h0 _ (own_pos p5) X426 eh426 N426 Z0   (own_posne2 _)
set_option maxRecDepth 65536 in
set_option maxHeartbeats 40000000 in
theorem comes_1 {Post : Tables → Env → Array Value → State → Outcome → State → Prop} (hpost : ∀ tb e args s v u, (limb_1_1.after args s (.returned v) u = true ∧ limb_1_2.after args s (.returned v) u = true ∧ True) → FrameEnd s (.returned v) u (Jvm.fieldLocs frame_1_writes args s ++ Jvm.arrayLocs frame_1_arrays args s ++ Jvm.staticLocs frame_1_statics s) 24 128 → Post tb e args s (.returned v) u) :
    ArmFor flags0 classFile x code maxLocals ret World_1 tables_1 room_1 Calls_1 rest_1 Pre_1 Post := by
  intro l hfl _ _ p e ha hc hk s m args below hf hA hF happ hP
  obtain ⟨hcalls, hrest, hpre⟩ := hP
  obtain ⟨-, -, -, hnamed, -, -, -, hat⟩ := (Spec.applies_iff hf).mp happ
  obtain ⟨hg, hn⟩ := and_e (Cond.before_iff.mp (show (Jvm.Cond.and given_1 narrow_1).before args s = true from hpre))
  obtain ⟨hcount, g0⟩ := and_e hg
  obtain ⟨w0, w1, w2, w3, w4, w5, rfl⟩ : ∃ w0 w1 w2 w3 w4 w5 : Value, args = #[w0, w1, w2, w3, w4, w5] := by
    have hs : args.size = 6 := by simpa [Cond.value, given_1] using hcount
    obtain ⟨L⟩ := args
    match L, hs with
    | [w0, w1, w2, w3, w4, w5], _ => exact ⟨w0, w1, w2, w3, w4, w5, rfl⟩
  have hw := fun d (hd : d ∈ tables_1) => atoms_spec (ws := Jvm.Cond.code x code maxLocals ret :: tables_1) hat d (List.mem_cons_of_mem _ hd)
  obtain ⟨u0, g1⟩ := and_e g0
  obtain ⟨i0, e0⟩ := is_v u0
  obtain rfl : w0 = (.int i0) := Option.some.inj e0
  obtain ⟨u1, g2⟩ := and_e g1
  obtain ⟨i1, e1⟩ := is_v u1
  obtain rfl : w1 = (.int i1) := Option.some.inj e1
  obtain ⟨u2, g3⟩ := and_e g2
  obtain ⟨i2, e2⟩ := is_v u2
  obtain rfl : w2 = (.int i2) := Option.some.inj e2
  obtain ⟨u3, g4⟩ := and_e g3
  obtain ⟨i3, e3⟩ := is_v u3
  obtain rfl : w3 = (.int i3) := Option.some.inj e3
  obtain ⟨u4, g5⟩ := and_e g4
  obtain ⟨i4, e4⟩ := is_v u4
  obtain rfl : w4 = (.int i4) := Option.some.inj e4
  obtain ⟨i5, e5⟩ := is_v g5
  obtain rfl : w5 = (.int i5) := Option.some.inj e5
  obtain ⟨n, o, h1, h2, h3, _, L, rfl, ⟨rfl, N⟩, hq⟩ := rm0 l s _ hw tables_1 i0 i1 i2 i3 i4 i5 s.heap s.heap.size (Nat.le_refl _) p e ha hc hk s m _ below hf ((Spec.applies_iff_loose hf).mp happ).1 ⟨rfl, State.Warmed39.refl s, rfl⟩ trivial
  refine ⟨n, _, h1, h2, h3, hpost _ _ _ _ _ _ ⟨Cond.after_iff.mpr rfl, Cond.after_iff.mpr (eq_i res_at (Term.int_eval (1)) rfl), trivial⟩ ⟨hq.1, hq.2.1, (hq.2.2.sift fun y hy => Or.inr (N y hy)).mono (by decide) (by decide)⟩⟩
theorem main_1_1 : Claimed_1_1 := comes_1 fun _ _ _ _ _ _ h hF => ⟨h.1, hF⟩
theorem main_1_2 : Claimed_1_2 := comes_1 fun _ _ _ _ _ _ h hF => ⟨h.2.1, hF⟩
end Jvm.Pilot.@@N@@
namespace Jvm.Pilot.@@N@@
open Jvm Jvm.ClassFile Sem Op Lib Jvm.Free Jvm.Stand Jvm.Pilot.@@N@@.Jvm.D
/-! MADE BY PROGRAM (witnessworld.py) out of the Statement's table words and the real class files: 20 classes; the members and pool entries that the words name. The judged class is class 1, her method 7. -/
namespace start1
open Jvm.ClassFile
def u (s : String) : CpInfo := .utf8 (stringToUtf16 s)
/-- a pool by its gaps: so many unusable entries, then the entry; so many at the end -/
def gap : Nat → List CpInfo → List CpInfo
  | 0, r => r
  | n + 1, r => .unusable :: gap n r
def poolList (es : List (Nat × CpInfo)) (last : Nat) : List CpInfo := es.foldr (fun e r => gap e.1 (e.2 :: r)) (gap last [])
def pool (es : List (Nat × CpInfo)) (last : Nat) : Array CpInfo := ⟨poolList es last⟩
def fileOf (pool : Array CpInfo) (this : Nat) (attrs : Array Attribute := #[]) (ms : Array MethodInfo := #[]) (fl : Nat := 33) (sup : Nat := 0) (ifs : Array Nat := #[]) (fds : Array FieldInfo := #[]) : ClassFile where
  minorVersion := 0
  majorVersion := 65
  constantPool := pool
  accessFlags := fl
  thisClass := this
  superClass := sup
  interfaces := ifs
  fields := fds
  methods := ms
  attributes := attrs
def plain (name : String) (sup : Option ClassId) : Class where
  name := name
  kind := .ordinary
  loader := none
  accessFlags := 33
  super := sup
  interfaces := #[]
  cf := none
  fields := #[]
  methods := #[]
  instanceTypes := #[]
  staticTypes := #[]
  resolved := #[]
  callSites := []
  init := .initialized
  statics := none
  mirror := none

def pool0 : Array CpInfo := pool [(5, u "<init>"), (0, u "()V"), (1, .class_ 10), (1, u "java/lang/Object")] 113

def k0c0 : Code := { maxStack := 0, maxLocals := 1, code := object_method_1_code, exceptionTable := #[], attributes := #[] }
def k0m0 : Method := { name := "<init>", desc := "()V", sig := { parameters := [], returnType := none }, accessFlags := 1, code := some k0c0 }
/-- java/lang/Object -/
def k0 : Class := { plain "java/lang/Object" none with
  accessFlags := 33
  interfaces := #[]
  cf := some (fileOf pool0 8 #[] #[{ accessFlags := 1, nameIndex := 5, descriptorIndex := 6, attributes := #[] }] 33 0 #[] #[])
  fields := #[]
  methods := #[k0m0]
  instanceTypes := #[]
  staticTypes := #[]
  resolved := Array.replicate 124 none
  statics := none }

def pool1 : Array CpInfo := pool [(2, .class_ 4), (1, u "java/lang/Object"), (0, u "<init>"), (0, u "()V"), (0, .integer 2147483647), (0, .methodref 9 10), (0, .class_ 11), (0, .nameAndType 12 13), (0, u "com/example/utu/utu/SlotNumbersToArrayPinLaw"), (0, u "inSet"), (0, u "(I[I[ZZI)Z"), (0, .methodref 9 15), (0, .nameAndType 16 17), (0, u "has"), (0, u "([II)Z"), (0, .methodref 9 19), (0, .nameAndType 20 21), (0, u "pos"), (0, u "(I)I"), (0, .class_ 23), (0, u "com/example/utu/utu/SlotNumbers"), (0, .methodref 22 25), (0, .nameAndType 5 26), (0, u "(II)V"), (0, .methodref 22 28), (0, .nameAndType 29 30), (0, u "add"), (0, u "(I)V"), (0, .methodref 22 32), (0, .nameAndType 33 30), (0, u "remove"), (0, .methodref 22 35), (0, .nameAndType 36 37), (0, u "toArray"), (0, u "()[I"), (0, .methodref 22 39), (0, .nameAndType 40 41), (0, u "size"), (0, u "()I"), (0, .methodref 9 43), (0, .nameAndType 44 45), (0, u "entryOk"), (0, u "([II[I[ZZI)Z"), (0, .methodref 9 47), (0, .nameAndType 48 49), (0, u "apart"), (0, u "([III)Z"), (0, .methodref 9 51), (0, .nameAndType 52 45), (0, u "covered"), (3, u "law"), (0, u "(IIIIII)Z")] 6

def k1m0 : Method := { name := "<init>", desc := "()V", sig := { parameters := [], returnType := none }, accessFlags := 1, code := none }
def k1c1 : Code := { maxStack := 2, maxLocals := 2, code := method_2_code, exceptionTable := #[], attributes := #[] }
def k1m1 : Method := { name := "pos", desc := "(I)I", sig := { parameters := [.int], returnType := some .int }, accessFlags := 10, code := some k1c1 }
def k1c2 : Code := { maxStack := 3, maxLocals := 5, code := method_3_code, exceptionTable := #[], attributes := #[] }
def k1m2 : Method := { name := "inSet", desc := "(I[I[ZZI)Z", sig := { parameters := [.int, (.array .int), (.array .boolean), .boolean, .int], returnType := some .boolean }, accessFlags := 10, code := some k1c2 }
def k1c3 : Code := { maxStack := 2, maxLocals := 3, code := method_4_code, exceptionTable := #[], attributes := #[] }
def k1m3 : Method := { name := "has", desc := "([II)Z", sig := { parameters := [(.array .int), .int], returnType := some .boolean }, accessFlags := 10, code := some k1c3 }
def k1c4 : Code := { maxStack := 5, maxLocals := 6, code := method_5_code, exceptionTable := #[], attributes := #[] }
def k1m4 : Method := { name := "entryOk", desc := "([II[I[ZZI)Z", sig := { parameters := [(.array .int), .int, (.array .int), (.array .boolean), .boolean, .int], returnType := some .boolean }, accessFlags := 10, code := some k1c4 }
def k1c5 : Code := { maxStack := 3, maxLocals := 3, code := method_6_code, exceptionTable := #[], attributes := #[] }
def k1m5 : Method := { name := "apart", desc := "([III)Z", sig := { parameters := [(.array .int), .int, .int], returnType := some .boolean }, accessFlags := 10, code := some k1c5 }
def k1c6 : Code := { maxStack := 3, maxLocals := 6, code := method_7_code, exceptionTable := #[], attributes := #[] }
def k1m6 : Method := { name := "covered", desc := "([II[I[ZZI)Z", sig := { parameters := [(.array .int), .int, (.array .int), (.array .boolean), .boolean, .int], returnType := some .boolean }, accessFlags := 10, code := some k1c6 }
def k1c7 : Code := { maxStack := 6, maxLocals := 20, code := code, exceptionTable := #[], attributes := #[] }
def k1m7 : Method := { name := "law", desc := "(IIIIII)Z", sig := { parameters := [.int, .int, .int, .int, .int, .int], returnType := some .boolean }, accessFlags := 9, code := some k1c7 }
/-- com/example/utu/utu/SlotNumbersToArrayPinLaw -/
def k1 : Class := { plain "com/example/utu/utu/SlotNumbersToArrayPinLaw" (some 0) with
  accessFlags := 49
  interfaces := #[]
  cf := some (fileOf pool1 9 #[] #[{ accessFlags := 1, nameIndex := 5, descriptorIndex := 6, attributes := #[] }, { accessFlags := 10, nameIndex := 20, descriptorIndex := 21, attributes := #[] }, { accessFlags := 10, nameIndex := 12, descriptorIndex := 13, attributes := #[] }, { accessFlags := 10, nameIndex := 16, descriptorIndex := 17, attributes := #[] }, { accessFlags := 10, nameIndex := 44, descriptorIndex := 45, attributes := #[] }, { accessFlags := 10, nameIndex := 48, descriptorIndex := 49, attributes := #[] }, { accessFlags := 10, nameIndex := 52, descriptorIndex := 45, attributes := #[] }, { accessFlags := 9, nameIndex := 56, descriptorIndex := 57, attributes := #[] }] 49 2 #[] #[])
  fields := #[]
  methods := #[k1m0, k1m1, k1m2, k1m3, k1m4, k1m5, k1m6, k1m7]
  instanceTypes := #[]
  staticTypes := #[]
  resolved := Array.replicate 64 none
  statics := none }

def pool2 : Array CpInfo := pool [(1, .class_ 2), (0, u "com/example/utu/utu/SlotNumbers"), (0, .methodref 4 5), (0, .class_ 6), (0, .nameAndType 7 8), (0, u "java/lang/Object"), (0, u "<init>"), (0, u "()V"), (0, .fieldref 1 10), (0, .nameAndType 11 12), (0, u "table"), (0, u "[I"), (0, .methodref 1 14), (0, .nameAndType 15 16), (0, u "add"), (0, u "(I)V"), (0, .fieldref 1 18), (0, .nameAndType 19 20), (0, u "size"), (0, u "I"), (0, .methodref 1 22), (0, .nameAndType 23 24), (0, u "find"), (0, u "([II)I"), (0, .methodref 1 26), (0, .nameAndType 27 28), (0, u "grown"), (0, u "([I)[I"), (0, .class_ 30), (0, u "com/example/utu/utu/SlotNumbers$TablePlaces"), (0, .methodref 29 32), (0, .nameAndType 7 33), (0, u "([I)V"), (0, .methodref 35 36), (0, .class_ 37), (0, .nameAndType 38 39), (0, u "com/example/utu/utu/OpenAddressing"), (0, u "closeGap"), (0, u "(Lcom/example/utu/utu/OpenAddressing$Places;I)V"), (0, .methodref 1 41), (0, .nameAndType 42 24), (0, u "home"), (0, .methodref 35 44), (0, .nameAndType 45 46), (0, u "next"), (0, u "(II)I"), (0, .methodref 35 48), (0, .nameAndType 42 46), (0, .methodref 1 50), (0, .nameAndType 51 52), (0, u "place"), (0, u "([II)V"), (0, u "FIRST_CAPACITY"), (2, u "BLOCK_BITS"), (0, u "BLOCKED_CAPACITY"), (1, u "(II)V"), (2, u "()I"), (1, u "remove"), (0, u "toArray"), (0, u "()[I")] 9

def k2c0 : Code := { maxStack := 2, maxLocals := 3, code := prog_29_method_1_code, exceptionTable := #[], attributes := #[] }
def k2m0 : Method := { name := "<init>", desc := "(II)V", sig := { parameters := [.int, .int], returnType := none }, accessFlags := 0, code := some k2c0 }
def k2c1 : Code := { maxStack := 1, maxLocals := 1, code := prog_29_method_2_code, exceptionTable := #[], attributes := #[] }
def k2m1 : Method := { name := "size", desc := "()I", sig := { parameters := [], returnType := some .int }, accessFlags := 0, code := some k2c1 }
def k2c2 : Code := { maxStack := 3, maxLocals := 3, code := prog_29_method_3_code, exceptionTable := #[], attributes := #[] }
def k2m2 : Method := { name := "add", desc := "(I)V", sig := { parameters := [.int], returnType := none }, accessFlags := 0, code := some k2c2 }
def k2c3 : Code := { maxStack := 3, maxLocals := 3, code := prog_29_method_4_code, exceptionTable := #[], attributes := #[] }
def k2m3 : Method := { name := "remove", desc := "(I)V", sig := { parameters := [.int], returnType := none }, accessFlags := 0, code := some k2c3 }
def k2c4 : Code := { maxStack := 3, maxLocals := 7, code := prog_29_method_5_code, exceptionTable := #[], attributes := #[] }
def k2m4 : Method := { name := "toArray", desc := "()[I", sig := { parameters := [], returnType := some (.array .int) }, accessFlags := 0, code := some k2c4 }
def k2c5 : Code := { maxStack := 2, maxLocals := 3, code := prog_29_method_6_code, exceptionTable := #[], attributes := #[] }
def k2m5 : Method := { name := "find", desc := "([II)I", sig := { parameters := [(.array .int), .int], returnType := some .int }, accessFlags := 10, code := some k2c5 }
def k2c6 : Code := { maxStack := 3, maxLocals := 2, code := prog_29_method_7_code, exceptionTable := #[], attributes := #[] }
def k2m6 : Method := { name := "place", desc := "([II)V", sig := { parameters := [(.array .int), .int], returnType := none }, accessFlags := 10, code := some k2c6 }
def k2c7 : Code := { maxStack := 3, maxLocals := 4, code := prog_29_method_8_code, exceptionTable := #[], attributes := #[] }
def k2m7 : Method := { name := "home", desc := "([II)I", sig := { parameters := [(.array .int), .int], returnType := some .int }, accessFlags := 10, code := some k2c7 }
def k2c8 : Code := { maxStack := 2, maxLocals := 6, code := prog_29_method_9_code, exceptionTable := #[], attributes := #[] }
def k2m8 : Method := { name := "grown", desc := "([I)[I", sig := { parameters := [(.array .int)], returnType := some (.array .int) }, accessFlags := 10, code := some k2c8 }
/-- com/example/utu/utu/SlotNumbers -/
def k2 : Class := { plain "com/example/utu/utu/SlotNumbers" (some 0) with
  accessFlags := 48
  interfaces := #[]
  cf := some (fileOf pool2 1 #[.nestMembers #[29]] #[{ accessFlags := 0, nameIndex := 7, descriptorIndex := 59, attributes := #[] }, { accessFlags := 0, nameIndex := 19, descriptorIndex := 62, attributes := #[] }, { accessFlags := 0, nameIndex := 15, descriptorIndex := 16, attributes := #[] }, { accessFlags := 0, nameIndex := 64, descriptorIndex := 16, attributes := #[] }, { accessFlags := 0, nameIndex := 65, descriptorIndex := 66, attributes := #[] }, { accessFlags := 10, nameIndex := 23, descriptorIndex := 24, attributes := #[] }, { accessFlags := 10, nameIndex := 51, descriptorIndex := 52, attributes := #[] }, { accessFlags := 10, nameIndex := 42, descriptorIndex := 24, attributes := #[] }, { accessFlags := 10, nameIndex := 27, descriptorIndex := 28, attributes := #[] }] 48 4 #[] #[{ accessFlags := 26, nameIndex := 53, descriptorIndex := 20, attributes := #[] }, { accessFlags := 26, nameIndex := 56, descriptorIndex := 20, attributes := #[] }, { accessFlags := 26, nameIndex := 57, descriptorIndex := 20, attributes := #[] }, { accessFlags := 2, nameIndex := 11, descriptorIndex := 12, attributes := #[] }, { accessFlags := 2, nameIndex := 19, descriptorIndex := 20, attributes := #[] }])
  fields := #[{ name := "FIRST_CAPACITY", type := .int, accessFlags := 26, slot := 0, constantValue := 0 }, { name := "BLOCK_BITS", type := .int, accessFlags := 26, slot := 1, constantValue := 0 }, { name := "BLOCKED_CAPACITY", type := .int, accessFlags := 26, slot := 2, constantValue := 0 }, { name := "table", type := (.array .int), accessFlags := 2, slot := 0, constantValue := 0 }, { name := "size", type := .int, accessFlags := 2, slot := 1, constantValue := 0 }]
  methods := #[k2m0, k2m1, k2m2, k2m3, k2m4, k2m5, k2m6, k2m7, k2m8]
  instanceTypes := #[(.array .int), .int]
  staticTypes := #[.int, .int, .int]
  resolved := ⟨List.replicate 29 none ++ [some (.cls 12), none, some (.method ⟨12, 0⟩)] ++ List.replicate 44 none⟩
  statics := none }

def pool3 : Array CpInfo := pool [(2, .class_ 4), (1, u "java/lang/Object"), (0, u "<init>"), (0, u "()V"), (0, .class_ 8), (0, u "com/example/utu/utu/OpenAddressing"), (0, .integer 2654435769), (0, .methodref 11 12), (0, .class_ 13), (0, .nameAndType 14 15), (0, u "java/lang/Integer"), (0, u "numberOfLeadingZeros"), (0, u "(I)I"), (9, u "()I"), (7, u "home"), (0, u "(II)I"), (0, .interfaceMethodref 36 37), (0, .class_ 38), (0, .nameAndType 39 25), (0, u "com/example/utu/utu/OpenAddressing$Places"), (0, u "length"), (0, .methodref 7 41), (0, .nameAndType 42 34), (0, u "next"), (0, .interfaceMethodref 36 44), (0, .nameAndType 45 46), (0, u "isFree"), (0, u "(I)Z"), (0, .interfaceMethodref 36 48), (0, .nameAndType 49 15), (0, u "homeOf"), (0, .interfaceMethodref 36 51), (0, .nameAndType 52 53), (0, u "move"), (0, u "(II)V"), (0, u "SPREAD"), (0, u "I"), (5, u "closeGap"), (0, u "(Lcom/example/utu/utu/OpenAddressing$Places;I)V")] 6

def k3m0 : Method := { name := "<init>", desc := "()V", sig := { parameters := [], returnType := none }, accessFlags := 2, code := none }
def k3c1 : Code := { maxStack := 3, maxLocals := 2, code := prog_19_method_2_code, exceptionTable := #[], attributes := #[] }
def k3m1 : Method := { name := "home", desc := "(II)I", sig := { parameters := [.int, .int], returnType := some .int }, accessFlags := 8, code := some k3c1 }
def k3c2 : Code := { maxStack := 3, maxLocals := 2, code := prog_19_method_5_code, exceptionTable := #[], attributes := #[] }
def k3m2 : Method := { name := "next", desc := "(II)I", sig := { parameters := [.int, .int], returnType := some .int }, accessFlags := 8, code := some k3c2 }
def k3c3 : Code := { maxStack := 3, maxLocals := 6, code := prog_19_method_6_code, exceptionTable := #[], attributes := #[] }
def k3m3 : Method := { name := "closeGap", desc := "(Lcom/example/utu/utu/OpenAddressing$Places;I)V", sig := { parameters := [(.object "com/example/utu/utu/OpenAddressing$Places"), .int], returnType := none }, accessFlags := 8, code := some k3c3 }
/-- com/example/utu/utu/OpenAddressing -/
def k3 : Class := { plain "com/example/utu/utu/OpenAddressing" (some 0) with
  accessFlags := 48
  interfaces := #[]
  cf := some (fileOf pool3 7 #[.nestMembers #[36]] #[{ accessFlags := 2, nameIndex := 5, descriptorIndex := 6, attributes := #[] }, { accessFlags := 8, nameIndex := 33, descriptorIndex := 34, attributes := #[] }, { accessFlags := 8, nameIndex := 42, descriptorIndex := 34, attributes := #[] }, { accessFlags := 8, nameIndex := 61, descriptorIndex := 62, attributes := #[] }] 48 2 #[] #[{ accessFlags := 26, nameIndex := 54, descriptorIndex := 55, attributes := #[] }])
  fields := #[{ name := "SPREAD", type := .int, accessFlags := 26, slot := 0, constantValue := 0 }]
  methods := #[k3m0, k3m1, k3m2, k3m3]
  instanceTypes := #[]
  staticTypes := #[.int]
  resolved := Array.replicate 69 none
  statics := none }

def pool4 : Array CpInfo := pool [(1, .class_ 2), (0, u "java/io/Serializable"), (0, .class_ 4), (0, u "java/lang/Object")] 2

/-- java/io/Serializable -/
def k4 : Class := { plain "java/io/Serializable" (some 0) with
  accessFlags := 1537
  interfaces := #[]
  cf := some (fileOf pool4 1 #[] #[] 1537 3 #[] #[])
  fields := #[]
  methods := #[]
  instanceTypes := #[]
  staticTypes := #[]
  resolved := Array.replicate 7 none
  statics := none }

def pool5 : Array CpInfo := pool [(2, .class_ 4), (1, u "java/lang/Object"), (0, u "<init>"), (0, u "()V"), (1, .class_ 10), (1, u "java/lang/Number"), (2, .class_ 14), (0, u "java/io/Serializable"), (0, u "serialVersionUID"), (0, u "J")] 20

def k5m0 : Method := { name := "<init>", desc := "()V", sig := { parameters := [], returnType := none }, accessFlags := 1, code := none }
/-- java/lang/Number -/
def k5 : Class := { plain "java/lang/Number" (some 0) with
  accessFlags := 1057
  interfaces := #[4]
  cf := some (fileOf pool5 8 #[] #[{ accessFlags := 1, nameIndex := 5, descriptorIndex := 6, attributes := #[] }] 1057 2 #[13] #[{ accessFlags := 26, nameIndex := 15, descriptorIndex := 16, attributes := #[] }])
  fields := #[{ name := "serialVersionUID", type := .long, accessFlags := 26, slot := 0, constantValue := 0 }]
  methods := #[k5m0]
  instanceTypes := #[]
  staticTypes := #[.long]
  resolved := Array.replicate 37 none
  statics := none }

def pool6 : Array CpInfo := pool [(1, .class_ 2), (0, u "java/lang/Comparable"), (0, .class_ 4), (0, u "java/lang/Object")] 7

/-- java/lang/Comparable -/
def k6 : Class := { plain "java/lang/Comparable" (some 0) with
  accessFlags := 1537
  interfaces := #[]
  cf := some (fileOf pool6 1 #[] #[] 1537 3 #[] #[])
  fields := #[]
  methods := #[]
  instanceTypes := #[]
  staticTypes := #[]
  resolved := Array.replicate 12 none
  statics := none }

def pool7 : Array CpInfo := pool [(1, .class_ 2), (0, u "java/lang/constant/Constable"), (0, .class_ 4), (0, u "java/lang/Object")] 6

/-- java/lang/constant/Constable -/
def k7 : Class := { plain "java/lang/constant/Constable" (some 0) with
  accessFlags := 1537
  interfaces := #[]
  cf := some (fileOf pool7 1 #[] #[] 1537 3 #[] #[])
  fields := #[]
  methods := #[]
  instanceTypes := #[]
  staticTypes := #[]
  resolved := Array.replicate 11 none
  statics := none }

def pool8 : Array CpInfo := pool [(1, .class_ 2), (0, u "java/lang/constant/ConstantDesc"), (0, .class_ 4), (0, u "java/lang/Object")] 32

/-- java/lang/constant/ConstantDesc -/
def k8 : Class := { plain "java/lang/constant/ConstantDesc" (some 0) with
  accessFlags := 1537
  interfaces := #[]
  cf := some (fileOf pool8 1 #[] #[] 1537 3 #[] #[])
  fields := #[]
  methods := #[]
  instanceTypes := #[]
  staticTypes := #[]
  resolved := Array.replicate 37 none
  statics := none }

def pool9 : Array CpInfo := pool [(1, .class_ 2), (0, u "java/lang/Integer"), (16, u "digits"), (0, u "[C"), (32, u "numberOfLeadingZeros"), (0, u "(I)I"), (30, u "DigitOnes"), (0, u "[B"), (2, u "DigitTens"), (99, .class_ 190), (0, u "java/lang/Integer$IntegerCache"), (3, u "I"), (8, .class_ 204), (0, u "java/lang/Number"), (2, u "value"), (56, .integer 65536), (37, u "TYPE"), (0, u "Ljava/lang/Class;"), (0, .class_ 305), (0, u "java/lang/Comparable"), (0, .class_ 307), (0, u "java/lang/constant/Constable"), (0, .class_ 309), (0, u "java/lang/constant/ConstantDesc"), (0, u "MIN_VALUE"), (1, u "MAX_VALUE"), (3, u "SIZE"), (1, u "BYTES"), (1, u "serialVersionUID"), (0, u "J")] 131

def k9c0 : Code := { maxStack := 3, maxLocals := 2, code := jdk_33_method_47_code, exceptionTable := #[], attributes := #[] }
def k9m0 : Method := { name := "numberOfLeadingZeros", desc := "(I)I", sig := { parameters := [.int], returnType := some .int }, accessFlags := 9, code := some k9c0 }
/-- java/lang/Integer -/
def k9 : Class := { plain "java/lang/Integer" (some 5) with
  accessFlags := 49
  interfaces := #[6, 7, 8]
  cf := some (fileOf pool9 1 #[.nestMembers #[189]] #[{ accessFlags := 9, nameIndex := 53, descriptorIndex := 54, attributes := #[] }] 49 203 #[304, 306, 308] #[{ accessFlags := 25, nameIndex := 310, descriptorIndex := 194, attributes := #[] }, { accessFlags := 25, nameIndex := 312, descriptorIndex := 194, attributes := #[] }, { accessFlags := 25, nameIndex := 302, descriptorIndex := 303, attributes := #[] }, { accessFlags := 24, nameIndex := 19, descriptorIndex := 20, attributes := #[] }, { accessFlags := 24, nameIndex := 89, descriptorIndex := 86, attributes := #[] }, { accessFlags := 24, nameIndex := 85, descriptorIndex := 86, attributes := #[] }, { accessFlags := 18, nameIndex := 207, descriptorIndex := 194, attributes := #[] }, { accessFlags := 25, nameIndex := 316, descriptorIndex := 194, attributes := #[] }, { accessFlags := 25, nameIndex := 318, descriptorIndex := 194, attributes := #[] }, { accessFlags := 26, nameIndex := 320, descriptorIndex := 321, attributes := #[] }])
  fields := #[{ name := "MIN_VALUE", type := .int, accessFlags := 25, slot := 0, constantValue := 0 }, { name := "MAX_VALUE", type := .int, accessFlags := 25, slot := 1, constantValue := 0 }, { name := "TYPE", type := (.object "java/lang/Class"), accessFlags := 25, slot := 2, constantValue := 0 }, { name := "digits", type := (.array .char), accessFlags := 24, slot := 3, constantValue := 0 }, { name := "DigitTens", type := (.array .byte), accessFlags := 24, slot := 4, constantValue := 0 }, { name := "DigitOnes", type := (.array .byte), accessFlags := 24, slot := 5, constantValue := 0 }, { name := "value", type := .int, accessFlags := 18, slot := 0, constantValue := 0 }, { name := "SIZE", type := .int, accessFlags := 25, slot := 6, constantValue := 0 }, { name := "BYTES", type := .int, accessFlags := 25, slot := 7, constantValue := 0 }, { name := "serialVersionUID", type := .long, accessFlags := 26, slot := 8, constantValue := 0 }]
  methods := #[k9m0]
  instanceTypes := #[.int]
  staticTypes := #[.int, .int, (.object "java/lang/Class"), (.array .char), (.array .byte), (.array .byte), .int, .int, .long]
  resolved := Array.replicate 453 none
  statics := none }

def pool10 : Array CpInfo := pool [(1, .methodref 2 3), (0, .class_ 4), (0, .nameAndType 5 6), (0, u "java/lang/Object"), (0, u "<init>"), (0, u "()V"), (0, .class_ 8), (0, u "java/lang/Record")] 13

def k10c0 : Code := { maxStack := 1, maxLocals := 1, code := jdk_30_method_1_code, exceptionTable := #[], attributes := #[] }
def k10m0 : Method := { name := "<init>", desc := "()V", sig := { parameters := [], returnType := none }, accessFlags := 4, code := some k10c0 }
/-- java/lang/Record -/
def k10 : Class := { plain "java/lang/Record" (some 0) with
  accessFlags := 1057
  interfaces := #[]
  cf := some (fileOf pool10 7 #[] #[{ accessFlags := 4, nameIndex := 5, descriptorIndex := 6, attributes := #[] }] 1057 2 #[] #[])
  fields := #[]
  methods := #[k10m0]
  instanceTypes := #[]
  staticTypes := #[]
  resolved := Array.replicate 22 none
  statics := none }

def pool11 : Array CpInfo := pool [(1, .class_ 2), (0, u "com/example/utu/utu/OpenAddressing$Places"), (0, .class_ 4), (0, u "java/lang/Object"), (0, u "length"), (0, u "()I"), (0, u "isFree"), (0, u "(I)Z"), (0, u "homeOf"), (0, u "(I)I"), (0, u "move"), (0, u "(II)V"), (3, .class_ 17), (0, u "com/example/utu/utu/OpenAddressing")] 2

def k11m0 : Method := { name := "length", desc := "()I", sig := { parameters := [], returnType := some .int }, accessFlags := 1025, code := none }
def k11m1 : Method := { name := "isFree", desc := "(I)Z", sig := { parameters := [.int], returnType := some .boolean }, accessFlags := 1025, code := none }
def k11m2 : Method := { name := "homeOf", desc := "(I)I", sig := { parameters := [.int], returnType := some .int }, accessFlags := 1025, code := none }
def k11m3 : Method := { name := "move", desc := "(II)V", sig := { parameters := [.int, .int], returnType := none }, accessFlags := 1025, code := none }
/-- com/example/utu/utu/OpenAddressing$Places -/
def k11 : Class := { plain "com/example/utu/utu/OpenAddressing$Places" (some 0) with
  accessFlags := 1536
  interfaces := #[]
  cf := some (fileOf pool11 1 #[.nestHost 16] #[{ accessFlags := 1025, nameIndex := 5, descriptorIndex := 6, attributes := #[] }, { accessFlags := 1025, nameIndex := 7, descriptorIndex := 8, attributes := #[] }, { accessFlags := 1025, nameIndex := 9, descriptorIndex := 10, attributes := #[] }, { accessFlags := 1025, nameIndex := 11, descriptorIndex := 12, attributes := #[] }] 1536 3 #[] #[])
  fields := #[]
  methods := #[k11m0, k11m1, k11m2, k11m3]
  instanceTypes := #[]
  staticTypes := #[]
  resolved := Array.replicate 20 none
  statics := none }

def pool12 : Array CpInfo := pool [(1, .methodref 2 3), (0, .class_ 4), (0, .nameAndType 5 6), (0, u "java/lang/Record"), (0, u "<init>"), (0, u "()V"), (0, .fieldref 8 9), (0, .class_ 10), (0, .nameAndType 11 12), (0, u "com/example/utu/utu/SlotNumbers$TablePlaces"), (0, u "table"), (0, u "[I"), (0, .methodref 14 15), (0, .class_ 16), (0, .nameAndType 17 18), (0, u "com/example/utu/utu/SlotNumbers"), (0, u "home"), (0, u "([II)I"), (12, .class_ 32), (0, u "com/example/utu/utu/OpenAddressing$Places"), (0, u "([I)V"), (3, u "length"), (0, u "()I"), (0, u "isFree"), (0, u "(I)Z"), (1, u "homeOf"), (0, u "(I)I"), (0, u "move"), (0, u "(II)V")] 27

def k12c0 : Code := { maxStack := 2, maxLocals := 2, code := prog_30_method_1_code, exceptionTable := #[], attributes := #[] }
def k12m0 : Method := { name := "<init>", desc := "([I)V", sig := { parameters := [(.array .int)], returnType := none }, accessFlags := 2, code := some k12c0 }
def k12c1 : Code := { maxStack := 1, maxLocals := 1, code := prog_30_method_2_code, exceptionTable := #[], attributes := #[] }
def k12m1 : Method := { name := "length", desc := "()I", sig := { parameters := [], returnType := some .int }, accessFlags := 1, code := some k12c1 }
def k12c2 : Code := { maxStack := 2, maxLocals := 2, code := prog_30_method_3_code, exceptionTable := #[], attributes := #[] }
def k12m2 : Method := { name := "isFree", desc := "(I)Z", sig := { parameters := [.int], returnType := some .boolean }, accessFlags := 1, code := some k12c2 }
def k12c3 : Code := { maxStack := 3, maxLocals := 2, code := prog_30_method_4_code, exceptionTable := #[], attributes := #[] }
def k12m3 : Method := { name := "homeOf", desc := "(I)I", sig := { parameters := [.int], returnType := some .int }, accessFlags := 1, code := some k12c3 }
def k12c4 : Code := { maxStack := 4, maxLocals := 3, code := prog_30_method_5_code, exceptionTable := #[], attributes := #[] }
def k12m4 : Method := { name := "move", desc := "(II)V", sig := { parameters := [.int, .int], returnType := none }, accessFlags := 1, code := some k12c4 }
/-- com/example/utu/utu/SlotNumbers$TablePlaces -/
def k12 : Class := { plain "com/example/utu/utu/SlotNumbers$TablePlaces" (some 10) with
  accessFlags := 48
  interfaces := #[11]
  cf := some (fileOf pool12 8 #[.nestHost 14] #[{ accessFlags := 2, nameIndex := 5, descriptorIndex := 33, attributes := #[] }, { accessFlags := 1, nameIndex := 37, descriptorIndex := 38, attributes := #[] }, { accessFlags := 1, nameIndex := 39, descriptorIndex := 40, attributes := #[] }, { accessFlags := 1, nameIndex := 42, descriptorIndex := 43, attributes := #[] }, { accessFlags := 1, nameIndex := 44, descriptorIndex := 45, attributes := #[] }] 48 2 #[31] #[{ accessFlags := 18, nameIndex := 11, descriptorIndex := 12, attributes := #[] }])
  fields := #[{ name := "table", type := (.array .int), accessFlags := 18, slot := 0, constantValue := 0 }]
  methods := #[k12m0, k12m1, k12m2, k12m3, k12m4]
  instanceTypes := #[(.array .int)]
  staticTypes := #[]
  resolved := Array.replicate 73 none
  statics := none }

def pool13 : Array CpInfo := pool [(1, u "java/lang/Cloneable"), (0, .class_ 1), (0, u "java/lang/Object"), (0, .class_ 3)] 3

/-- java/lang/Cloneable -/
def k13 : Class := { plain "java/lang/Cloneable" (some 0) with
  accessFlags := 1537
  interfaces := #[]
  cf := some (fileOf pool13 2 #[] #[] 1537 4 #[] #[])
  fields := #[]
  methods := #[]
  instanceTypes := #[]
  staticTypes := #[]
  resolved := Array.replicate 8 none
  statics := none }

/-- the primitive boolean -/
def k14 : Class := { plain "boolean" none with kind := .primitive 'Z', accessFlags := 0x411 }
/-- [Z -/
def k15 : Class := { plain "[Z" (some 0) with kind := .array 14 .boolean, interfaces := #[13, 4], accessFlags := 1041 }

/-- the primitive byte -/
def k16 : Class := { plain "byte" none with kind := .primitive 'B', accessFlags := 0x411 }
/-- [B -/
def k17 : Class := { plain "[B" (some 0) with kind := .array 16 .byte, interfaces := #[13, 4], accessFlags := 1041 }

/-- the primitive int -/
def k18 : Class := { plain "int" none with kind := .primitive 'I', accessFlags := 0x411 }
/-- [I -/
def k19 : Class := { plain "[I" (some 0) with kind := .array 18 .int, interfaces := #[13, 4], accessFlags := 1041 }

def heap : Heap := #[]
def classes : Array Class := #[k0, k1, k2, k3, k4, k5, k6, k7, k8, k9, k10, k11, k12, k13, k14, k15, k16, k17, k18, k19]
def interned : List (Array UInt16 × Addr) := []
def slotsUsed : Nat := 0
def theMethod : MethodId := ⟨1, 7⟩
def args0 : Array Value := #[.int 5, .int 3, .int 7, .int 48, .int 2, .int 1]
def aboutOver (below : List Frame) : State where
  vm := { classes := classes, interned := interned.toArray }
  heap := heap
  slotsUsed := slotsUsed
  threads := #[{ frames := .invoking theMethod args0 :: below }]
def below0 : List Frame := [.native { method := ⟨0, 0⟩, args := #[] }]
def about1 : State := aboutOver below0
def p0 : Program := .bare "" "" ""
def e0 : Env := launch0.env 0 0 0
theorem w_frames : about1.frames = Frame.invoking theMethod args0 :: below0 := rfl
set_option maxRecDepth 65536 in
theorem w_args : argsFit about1.vm theMethod args0 = true := by decide +kernel
set_option maxRecDepth 65536 in
theorem w_heap : heapFits about1 = true := by decide +kernel
set_option maxRecDepth 65536 in
theorem w_runnable : about1.curStatus? = some .runnable := by decide +kernel
set_option maxRecDepth 65536 in
theorem w_alone : about1.alone = true := by decide +kernel
set_option maxRecDepth 65536 in
theorem w_named : about1.methodNamed? x = some theMethod := by decide +kernel
set_option maxRecDepth 65536 in
theorem w_hears : about1.hears theMethod below0 = true := by decide +kernel
set_option maxRecDepth 65536 in
theorem w_ripe : about1.ripe theMethod args0 below0 = true := by decide +kernel
theorem w_running : about1.status = .running := rfl
set_option maxRecDepth 65536 in
theorem w_room : about1.hasRoom e0.platform room_1 = true :=
  launch0.hasRoom_least _ room_1 (by decide +kernel) (by decide +kernel) (by decide +kernel) (by decide +kernel) (by decide +kernel) (by decide +kernel)
theorem allAtoms_all (ts : List Jvm.Cond) (a : Array Jvm.Value) (st : Jvm.State) : (allAtoms ts).before a st = ts.all (fun c => c.before a st) := by
  induction ts with
  | nil => rfl
  | cons c t ih =>
    show (Jvm.Cond.and c (allAtoms t)).before a st = _
    rw [Jvm.Cond.before_and, ih, List.all_cons]
def words1 : List Jvm.Cond := Jvm.Cond.code x code maxLocals ret :: tables_1
/-- a 'code' word, met by the world's own term for the bytes: nothing is compared byte by byte -/
theorem code_word {y : MethodName} {bytes : ByteArray} {mx : Nat} {rt : Option FieldType} {a : Array Value} {s : State} {m : MethodId} {meth : Method} {c : Code} (h1 : s.methodNamed? y = some m) (h2 : s.vm.method? m = some meth) (h3 : meth.code = some c) (h4 : c.code = bytes)
    (h5 : (c.maxLocals == mx && c.exceptionTable.isEmpty && decide (c.maxStack ≤ mostOperands) && decide (meth.sig.returnType = rt) && !meth.locks && decide (parseMethodDescriptor y.desc = some meth.sig)) = true) : (Jvm.Cond.code y bytes mx rt).before a s = true := by
  simp only [Bool.and_eq_true, beq_iff_eq, Bool.not_eq_true', decide_eq_true_eq] at h5
  obtain ⟨⟨⟨⟨⟨g1, g2⟩, g3⟩, g4⟩, g5⟩, g6⟩ := h5
  simp [Cond.before, Cond.holds, Cond.value, h1, h2, h3, h4, g1, g2, g3, g4, g5, g6]
def isCode : Jvm.Cond → Bool
  | .code _ _ _ _ => true
  | _ => false
theorem all_split {L : List Jvm.Cond} {P : Jvm.Cond → Bool} (h1 : L.all (fun c => isCode c || P c) = true) (h2 : ∀ c ∈ L.filter isCode, P c = true) : L.all P = true := by
  refine List.all_eq_true.mpr fun c hc => ?_
  have h := List.all_eq_true.mp h1 c hc
  rcases Bool.eq_false_or_eq_true (isCode c) with hi | hi
  · exact h2 c (List.mem_filter.mpr ⟨hc, hi⟩)
  · simpa [hi] using h
set_option maxRecDepth 65536 in
theorem w_c0 : (Jvm.Cond.code x code maxLocals ret).before args0 about1 = true := code_word (m := ⟨1, 7⟩) (meth := k1m7) (c := k1c7) (by decide +kernel) rfl rfl rfl (by decide +kernel)
set_option maxRecDepth 65536 in
theorem w_c1 : (Jvm.Cond.code ({ cls := "com/example/utu/utu/SlotNumbersToArrayPinLaw", name := "pos", desc := "(I)I" } : Jvm.MethodName) method_2_code (2 : Nat) (Option.some Jvm.ClassFile.FieldType.int)).before args0 about1 = true := code_word (m := ⟨1, 1⟩) (meth := k1m1) (c := k1c1) (by decide +kernel) rfl rfl rfl (by decide +kernel)
set_option maxRecDepth 65536 in
theorem w_c2 : (Jvm.Cond.code ({ cls := "com/example/utu/utu/SlotNumbers", name := "<init>", desc := "(II)V" } : Jvm.MethodName) prog_29_method_1_code (3 : Nat) (Option.none : Option Jvm.ClassFile.FieldType)).before args0 about1 = true := code_word (m := ⟨2, 0⟩) (meth := k2m0) (c := k2c0) (by decide +kernel) rfl rfl rfl (by decide +kernel)
set_option maxRecDepth 65536 in
theorem w_c3 : (Jvm.Cond.code ({ cls := "java/lang/Object", name := "<init>", desc := "()V" } : Jvm.MethodName) object_method_1_code (1 : Nat) (Option.none : Option Jvm.ClassFile.FieldType)).before args0 about1 = true := code_word (m := ⟨0, 0⟩) (meth := k0m0) (c := k0c0) (by decide +kernel) rfl rfl rfl (by decide +kernel)
set_option maxRecDepth 65536 in
theorem w_c4 : (Jvm.Cond.code ({ cls := "com/example/utu/utu/SlotNumbers", name := "add", desc := "(I)V" } : Jvm.MethodName) prog_29_method_3_code (3 : Nat) (Option.none : Option Jvm.ClassFile.FieldType)).before args0 about1 = true := code_word (m := ⟨2, 2⟩) (meth := k2m2) (c := k2c2) (by decide +kernel) rfl rfl rfl (by decide +kernel)
set_option maxRecDepth 65536 in
theorem w_c5 : (Jvm.Cond.code ({ cls := "com/example/utu/utu/SlotNumbers", name := "find", desc := "([II)I" } : Jvm.MethodName) prog_29_method_6_code (3 : Nat) (Option.some Jvm.ClassFile.FieldType.int)).before args0 about1 = true := code_word (m := ⟨2, 5⟩) (meth := k2m5) (c := k2c5) (by decide +kernel) rfl rfl rfl (by decide +kernel)
set_option maxRecDepth 65536 in
theorem w_c6 : (Jvm.Cond.code ({ cls := "com/example/utu/utu/SlotNumbers", name := "home", desc := "([II)I" } : Jvm.MethodName) prog_29_method_8_code (4 : Nat) (Option.some Jvm.ClassFile.FieldType.int)).before args0 about1 = true := code_word (m := ⟨2, 7⟩) (meth := k2m7) (c := k2c7) (by decide +kernel) rfl rfl rfl (by decide +kernel)
set_option maxRecDepth 65536 in
theorem w_c7 : (Jvm.Cond.code ({ cls := "com/example/utu/utu/OpenAddressing", name := "home", desc := "(II)I" } : Jvm.MethodName) prog_19_method_2_code (2 : Nat) (Option.some Jvm.ClassFile.FieldType.int)).before args0 about1 = true := code_word (m := ⟨3, 1⟩) (meth := k3m1) (c := k3c1) (by decide +kernel) rfl rfl rfl (by decide +kernel)
set_option maxRecDepth 65536 in
theorem w_c8 : (Jvm.Cond.code ({ cls := "java/lang/Integer", name := "numberOfLeadingZeros", desc := "(I)I" } : Jvm.MethodName) jdk_33_method_47_code (2 : Nat) (Option.some Jvm.ClassFile.FieldType.int)).before args0 about1 = true := code_word (m := ⟨9, 0⟩) (meth := k9m0) (c := k9c0) (by decide +kernel) rfl rfl rfl (by decide +kernel)
set_option maxRecDepth 65536 in
theorem w_c9 : (Jvm.Cond.code ({ cls := "com/example/utu/utu/SlotNumbers", name := "grown", desc := "([I)[I" } : Jvm.MethodName) prog_29_method_9_code (6 : Nat) (Option.some (Jvm.ClassFile.FieldType.array Jvm.ClassFile.FieldType.int))).before args0 about1 = true := code_word (m := ⟨2, 8⟩) (meth := k2m8) (c := k2c8) (by decide +kernel) rfl rfl rfl (by decide +kernel)
set_option maxRecDepth 65536 in
theorem w_c10 : (Jvm.Cond.code ({ cls := "com/example/utu/utu/SlotNumbers", name := "place", desc := "([II)V" } : Jvm.MethodName) prog_29_method_7_code (2 : Nat) (Option.none : Option Jvm.ClassFile.FieldType)).before args0 about1 = true := code_word (m := ⟨2, 6⟩) (meth := k2m6) (c := k2c6) (by decide +kernel) rfl rfl rfl (by decide +kernel)
set_option maxRecDepth 65536 in
theorem w_c11 : (Jvm.Cond.code ({ cls := "com/example/utu/utu/SlotNumbers", name := "remove", desc := "(I)V" } : Jvm.MethodName) prog_29_method_4_code (3 : Nat) (Option.none : Option Jvm.ClassFile.FieldType)).before args0 about1 = true := code_word (m := ⟨2, 3⟩) (meth := k2m3) (c := k2c3) (by decide +kernel) rfl rfl rfl (by decide +kernel)
set_option maxRecDepth 65536 in
theorem w_c12 : (Jvm.Cond.code ({ cls := "com/example/utu/utu/SlotNumbers$TablePlaces", name := "<init>", desc := "([I)V" } : Jvm.MethodName) prog_30_method_1_code (2 : Nat) (Option.none : Option Jvm.ClassFile.FieldType)).before args0 about1 = true := code_word (m := ⟨12, 0⟩) (meth := k12m0) (c := k12c0) (by decide +kernel) rfl rfl rfl (by decide +kernel)
set_option maxRecDepth 65536 in
theorem w_c13 : (Jvm.Cond.code ({ cls := "java/lang/Record", name := "<init>", desc := "()V" } : Jvm.MethodName) jdk_30_method_1_code (1 : Nat) (Option.none : Option Jvm.ClassFile.FieldType)).before args0 about1 = true := code_word (m := ⟨10, 0⟩) (meth := k10m0) (c := k10c0) (by decide +kernel) rfl rfl rfl (by decide +kernel)
set_option maxRecDepth 65536 in
theorem w_c14 : (Jvm.Cond.code ({ cls := "com/example/utu/utu/OpenAddressing", name := "closeGap", desc := "(Lcom/example/utu/utu/OpenAddressing$Places;I)V" } : Jvm.MethodName) prog_19_method_6_code (6 : Nat) (Option.none : Option Jvm.ClassFile.FieldType)).before args0 about1 = true := code_word (m := ⟨3, 3⟩) (meth := k3m3) (c := k3c3) (by decide +kernel) rfl rfl rfl (by decide +kernel)
set_option maxRecDepth 65536 in
theorem w_c15 : (Jvm.Cond.code ({ cls := "com/example/utu/utu/SlotNumbers$TablePlaces", name := "length", desc := "()I" } : Jvm.MethodName) prog_30_method_2_code (1 : Nat) (Option.some Jvm.ClassFile.FieldType.int)).before args0 about1 = true := code_word (m := ⟨12, 1⟩) (meth := k12m1) (c := k12c1) (by decide +kernel) rfl rfl rfl (by decide +kernel)
set_option maxRecDepth 65536 in
theorem w_c16 : (Jvm.Cond.code ({ cls := "com/example/utu/utu/OpenAddressing", name := "next", desc := "(II)I" } : Jvm.MethodName) prog_19_method_5_code (2 : Nat) (Option.some Jvm.ClassFile.FieldType.int)).before args0 about1 = true := code_word (m := ⟨3, 2⟩) (meth := k3m2) (c := k3c2) (by decide +kernel) rfl rfl rfl (by decide +kernel)
set_option maxRecDepth 65536 in
theorem w_c17 : (Jvm.Cond.code ({ cls := "com/example/utu/utu/SlotNumbers$TablePlaces", name := "isFree", desc := "(I)Z" } : Jvm.MethodName) prog_30_method_3_code (2 : Nat) (Option.some Jvm.ClassFile.FieldType.boolean)).before args0 about1 = true := code_word (m := ⟨12, 2⟩) (meth := k12m2) (c := k12c2) (by decide +kernel) rfl rfl rfl (by decide +kernel)
set_option maxRecDepth 65536 in
theorem w_c18 : (Jvm.Cond.code ({ cls := "com/example/utu/utu/SlotNumbers", name := "toArray", desc := "()[I" } : Jvm.MethodName) prog_29_method_5_code (7 : Nat) (Option.some (Jvm.ClassFile.FieldType.array Jvm.ClassFile.FieldType.int))).before args0 about1 = true := code_word (m := ⟨2, 4⟩) (meth := k2m4) (c := k2c4) (by decide +kernel) rfl rfl rfl (by decide +kernel)
set_option maxRecDepth 65536 in
theorem w_c19 : (Jvm.Cond.code ({ cls := "com/example/utu/utu/SlotNumbers", name := "size", desc := "()I" } : Jvm.MethodName) prog_29_method_2_code (1 : Nat) (Option.some Jvm.ClassFile.FieldType.int)).before args0 about1 = true := code_word (m := ⟨2, 1⟩) (meth := k2m1) (c := k2c1) (by decide +kernel) rfl rfl rfl (by decide +kernel)
set_option maxRecDepth 65536 in
theorem w_c20 : (Jvm.Cond.code ({ cls := "com/example/utu/utu/SlotNumbersToArrayPinLaw", name := "entryOk", desc := "([II[I[ZZI)Z" } : Jvm.MethodName) method_5_code (6 : Nat) (Option.some Jvm.ClassFile.FieldType.boolean)).before args0 about1 = true := code_word (m := ⟨1, 4⟩) (meth := k1m4) (c := k1c4) (by decide +kernel) rfl rfl rfl (by decide +kernel)
set_option maxRecDepth 65536 in
theorem w_c21 : (Jvm.Cond.code ({ cls := "com/example/utu/utu/SlotNumbersToArrayPinLaw", name := "inSet", desc := "(I[I[ZZI)Z" } : Jvm.MethodName) method_3_code (5 : Nat) (Option.some Jvm.ClassFile.FieldType.boolean)).before args0 about1 = true := code_word (m := ⟨1, 2⟩) (meth := k1m2) (c := k1c2) (by decide +kernel) rfl rfl rfl (by decide +kernel)
set_option maxRecDepth 65536 in
theorem w_c22 : (Jvm.Cond.code ({ cls := "com/example/utu/utu/SlotNumbersToArrayPinLaw", name := "apart", desc := "([III)Z" } : Jvm.MethodName) method_6_code (3 : Nat) (Option.some Jvm.ClassFile.FieldType.boolean)).before args0 about1 = true := code_word (m := ⟨1, 5⟩) (meth := k1m5) (c := k1c5) (by decide +kernel) rfl rfl rfl (by decide +kernel)
set_option maxRecDepth 65536 in
theorem w_c23 : (Jvm.Cond.code ({ cls := "com/example/utu/utu/SlotNumbersToArrayPinLaw", name := "covered", desc := "([II[I[ZZI)Z" } : Jvm.MethodName) method_7_code (6 : Nat) (Option.some Jvm.ClassFile.FieldType.boolean)).before args0 about1 = true := code_word (m := ⟨1, 6⟩) (meth := k1m6) (c := k1c6) (by decide +kernel) rfl rfl rfl (by decide +kernel)
set_option maxRecDepth 65536 in
theorem w_c24 : (Jvm.Cond.code ({ cls := "com/example/utu/utu/SlotNumbersToArrayPinLaw", name := "has", desc := "([II)Z" } : Jvm.MethodName) method_4_code (3 : Nat) (Option.some Jvm.ClassFile.FieldType.boolean)).before args0 about1 = true := code_word (m := ⟨1, 3⟩) (meth := k1m3) (c := k1c3) (by decide +kernel) rfl rfl rfl (by decide +kernel)
set_option maxRecDepth 65536 in
theorem w_c25 : (Jvm.Cond.code ({ cls := "com/example/utu/utu/SlotNumbers$TablePlaces", name := "homeOf", desc := "(I)I" } : Jvm.MethodName) prog_30_method_4_code (2 : Nat) (Option.some Jvm.ClassFile.FieldType.int)).before args0 about1 = true := code_word (m := ⟨12, 3⟩) (meth := k12m3) (c := k12c3) (by decide +kernel) rfl rfl rfl (by decide +kernel)
set_option maxRecDepth 65536 in
theorem w_c26 : (Jvm.Cond.code ({ cls := "com/example/utu/utu/SlotNumbers$TablePlaces", name := "move", desc := "(II)V" } : Jvm.MethodName) prog_30_method_5_code (3 : Nat) (Option.none : Option Jvm.ClassFile.FieldType)).before args0 about1 = true := code_word (m := ⟨12, 4⟩) (meth := k12m4) (c := k12c4) (by decide +kernel) rfl rfl rfl (by decide +kernel)
def codes1 : List Jvm.Cond := [Jvm.Cond.code x code maxLocals ret, Jvm.Cond.code ({ cls := "com/example/utu/utu/SlotNumbersToArrayPinLaw", name := "pos", desc := "(I)I" } : Jvm.MethodName) method_2_code (2 : Nat) (Option.some Jvm.ClassFile.FieldType.int), Jvm.Cond.code ({ cls := "com/example/utu/utu/SlotNumbers", name := "<init>", desc := "(II)V" } : Jvm.MethodName) prog_29_method_1_code (3 : Nat) (Option.none : Option Jvm.ClassFile.FieldType), Jvm.Cond.code ({ cls := "java/lang/Object", name := "<init>", desc := "()V" } : Jvm.MethodName) object_method_1_code (1 : Nat) (Option.none : Option Jvm.ClassFile.FieldType), Jvm.Cond.code ({ cls := "com/example/utu/utu/SlotNumbers", name := "add", desc := "(I)V" } : Jvm.MethodName) prog_29_method_3_code (3 : Nat) (Option.none : Option Jvm.ClassFile.FieldType), Jvm.Cond.code ({ cls := "com/example/utu/utu/SlotNumbers", name := "find", desc := "([II)I" } : Jvm.MethodName) prog_29_method_6_code (3 : Nat) (Option.some Jvm.ClassFile.FieldType.int), Jvm.Cond.code ({ cls := "com/example/utu/utu/SlotNumbers", name := "home", desc := "([II)I" } : Jvm.MethodName) prog_29_method_8_code (4 : Nat) (Option.some Jvm.ClassFile.FieldType.int), Jvm.Cond.code ({ cls := "com/example/utu/utu/OpenAddressing", name := "home", desc := "(II)I" } : Jvm.MethodName) prog_19_method_2_code (2 : Nat) (Option.some Jvm.ClassFile.FieldType.int), Jvm.Cond.code ({ cls := "java/lang/Integer", name := "numberOfLeadingZeros", desc := "(I)I" } : Jvm.MethodName) jdk_33_method_47_code (2 : Nat) (Option.some Jvm.ClassFile.FieldType.int), Jvm.Cond.code ({ cls := "com/example/utu/utu/SlotNumbers", name := "grown", desc := "([I)[I" } : Jvm.MethodName) prog_29_method_9_code (6 : Nat) (Option.some (Jvm.ClassFile.FieldType.array Jvm.ClassFile.FieldType.int)), Jvm.Cond.code ({ cls := "com/example/utu/utu/SlotNumbers", name := "place", desc := "([II)V" } : Jvm.MethodName) prog_29_method_7_code (2 : Nat) (Option.none : Option Jvm.ClassFile.FieldType), Jvm.Cond.code ({ cls := "com/example/utu/utu/SlotNumbers", name := "remove", desc := "(I)V" } : Jvm.MethodName) prog_29_method_4_code (3 : Nat) (Option.none : Option Jvm.ClassFile.FieldType), Jvm.Cond.code ({ cls := "com/example/utu/utu/SlotNumbers$TablePlaces", name := "<init>", desc := "([I)V" } : Jvm.MethodName) prog_30_method_1_code (2 : Nat) (Option.none : Option Jvm.ClassFile.FieldType), Jvm.Cond.code ({ cls := "java/lang/Record", name := "<init>", desc := "()V" } : Jvm.MethodName) jdk_30_method_1_code (1 : Nat) (Option.none : Option Jvm.ClassFile.FieldType), Jvm.Cond.code ({ cls := "com/example/utu/utu/OpenAddressing", name := "closeGap", desc := "(Lcom/example/utu/utu/OpenAddressing$Places;I)V" } : Jvm.MethodName) prog_19_method_6_code (6 : Nat) (Option.none : Option Jvm.ClassFile.FieldType), Jvm.Cond.code ({ cls := "com/example/utu/utu/SlotNumbers$TablePlaces", name := "length", desc := "()I" } : Jvm.MethodName) prog_30_method_2_code (1 : Nat) (Option.some Jvm.ClassFile.FieldType.int), Jvm.Cond.code ({ cls := "com/example/utu/utu/OpenAddressing", name := "next", desc := "(II)I" } : Jvm.MethodName) prog_19_method_5_code (2 : Nat) (Option.some Jvm.ClassFile.FieldType.int), Jvm.Cond.code ({ cls := "com/example/utu/utu/SlotNumbers$TablePlaces", name := "isFree", desc := "(I)Z" } : Jvm.MethodName) prog_30_method_3_code (2 : Nat) (Option.some Jvm.ClassFile.FieldType.boolean), Jvm.Cond.code ({ cls := "com/example/utu/utu/SlotNumbers", name := "toArray", desc := "()[I" } : Jvm.MethodName) prog_29_method_5_code (7 : Nat) (Option.some (Jvm.ClassFile.FieldType.array Jvm.ClassFile.FieldType.int)), Jvm.Cond.code ({ cls := "com/example/utu/utu/SlotNumbers", name := "size", desc := "()I" } : Jvm.MethodName) prog_29_method_2_code (1 : Nat) (Option.some Jvm.ClassFile.FieldType.int), Jvm.Cond.code ({ cls := "com/example/utu/utu/SlotNumbersToArrayPinLaw", name := "entryOk", desc := "([II[I[ZZI)Z" } : Jvm.MethodName) method_5_code (6 : Nat) (Option.some Jvm.ClassFile.FieldType.boolean), Jvm.Cond.code ({ cls := "com/example/utu/utu/SlotNumbersToArrayPinLaw", name := "inSet", desc := "(I[I[ZZI)Z" } : Jvm.MethodName) method_3_code (5 : Nat) (Option.some Jvm.ClassFile.FieldType.boolean), Jvm.Cond.code ({ cls := "com/example/utu/utu/SlotNumbersToArrayPinLaw", name := "apart", desc := "([III)Z" } : Jvm.MethodName) method_6_code (3 : Nat) (Option.some Jvm.ClassFile.FieldType.boolean), Jvm.Cond.code ({ cls := "com/example/utu/utu/SlotNumbersToArrayPinLaw", name := "covered", desc := "([II[I[ZZI)Z" } : Jvm.MethodName) method_7_code (6 : Nat) (Option.some Jvm.ClassFile.FieldType.boolean), Jvm.Cond.code ({ cls := "com/example/utu/utu/SlotNumbersToArrayPinLaw", name := "has", desc := "([II)Z" } : Jvm.MethodName) method_4_code (3 : Nat) (Option.some Jvm.ClassFile.FieldType.boolean), Jvm.Cond.code ({ cls := "com/example/utu/utu/SlotNumbers$TablePlaces", name := "homeOf", desc := "(I)I" } : Jvm.MethodName) prog_30_method_4_code (2 : Nat) (Option.some Jvm.ClassFile.FieldType.int), Jvm.Cond.code ({ cls := "com/example/utu/utu/SlotNumbers$TablePlaces", name := "move", desc := "(II)V" } : Jvm.MethodName) prog_30_method_5_code (3 : Nat) (Option.none : Option Jvm.ClassFile.FieldType)]
set_option maxRecDepth 65536 in
theorem codes_eq : words1.filter isCode = codes1 := rfl
theorem w_codes : ∀ c ∈ words1.filter isCode, c.before args0 about1 = true := by
  rw [codes_eq]
  intro c hc
  simp only [codes1, List.mem_cons, List.not_mem_nil, or_false] at hc
  rcases hc with rfl | rfl | rfl | rfl | rfl | rfl | rfl | rfl | rfl | rfl | rfl | rfl | rfl | rfl | rfl | rfl | rfl | rfl | rfl | rfl | rfl | rfl | rfl | rfl | rfl | rfl | rfl
  · exact w_c0
  · exact w_c1
  · exact w_c2
  · exact w_c3
  · exact w_c4
  · exact w_c5
  · exact w_c6
  · exact w_c7
  · exact w_c8
  · exact w_c9
  · exact w_c10
  · exact w_c11
  · exact w_c12
  · exact w_c13
  · exact w_c14
  · exact w_c15
  · exact w_c16
  · exact w_c17
  · exact w_c18
  · exact w_c19
  · exact w_c20
  · exact w_c21
  · exact w_c22
  · exact w_c23
  · exact w_c24
  · exact w_c25
  · exact w_c26
set_option maxRecDepth 65536 in
theorem w_t1 : (words1.take 24).all (fun c => isCode c || c.before args0 about1) = true := by decide +kernel
set_option maxRecDepth 65536 in
theorem w_t2 : ((words1.drop 24).take 24).all (fun c => isCode c || c.before args0 about1) = true := by decide +kernel
set_option maxRecDepth 65536 in
theorem w_t3 : (((words1.drop 24).drop 24).take 24).all (fun c => isCode c || c.before args0 about1) = true := by decide +kernel
set_option maxRecDepth 65536 in
theorem w_t4 : ((((words1.drop 24).drop 24).drop 24).take 24).all (fun c => isCode c || c.before args0 about1) = true := by decide +kernel
set_option maxRecDepth 65536 in
theorem w_t5 : (((((words1.drop 24).drop 24).drop 24).drop 24).take 24).all (fun c => isCode c || c.before args0 about1) = true := by decide +kernel
set_option maxRecDepth 65536 in
theorem w_t6 : (((((words1.drop 24).drop 24).drop 24).drop 24).drop 24).all (fun c => isCode c || c.before args0 about1) = true := by decide +kernel
theorem w_tables : (allAtoms (Jvm.Cond.code x code maxLocals ret :: tables_1)).before args0 about1 = true := by
  rw [allAtoms_all]
  show words1.all (fun c => c.before args0 about1) = true
  refine all_split ?_ w_codes
  rw [← List.take_append_drop 24 words1, List.all_append, w_t1, ← List.take_append_drop 24 (words1.drop 24), List.all_append, w_t2, ← List.take_append_drop 24 ((words1.drop 24).drop 24), List.all_append, w_t3, ← List.take_append_drop 24 (((words1.drop 24).drop 24).drop 24), List.all_append, w_t4, ← List.take_append_drop 24 ((((words1.drop 24).drop 24).drop 24).drop 24), List.all_append, w_t5, w_t6]
  rfl
set_option maxRecDepth 65536 in
theorem w_case : (Jvm.Cond.and given_1 narrow_1).before args0 about1 = true := by decide +kernel
theorem w_applies : (headSpec (Jvm.Cond.code x code maxLocals ret :: tables_1) room_1).applies x e0.platform about1 = true :=
  (Spec.applies_iff w_frames).mpr ⟨w_running, w_runnable, w_alone, w_named, w_hears, w_ripe, w_room, w_tables⟩
theorem atStart : AtStart classFile x code maxLocals ret World_1 tables_1 room_1 Calls_1 rest_1 Pre_1 launch0 p0 e0 about1 theMethod args0 below0 :=
  ⟨lists_1, trivial, launch0.admits_env _ _ _, launch0.least_env, fairChoices_fair.cas, fairChoices_fair.clock, w_frames, w_args, w_heap, w_applies, trivial, trivial, w_case⟩
end start1
theorem witness_1 : WitnessClaimed_1 := ⟨start1.p0, start1.e0, start1.about1, start1.theMethod, start1.args0, start1.below0, start1.atStart⟩
end Jvm.Pilot.@@N@@
