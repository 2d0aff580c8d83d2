import JvmDerived
import JvmDerived.Pilot.@@N@@Statement
import JvmDerived.Pilot.@@N@@Code
set_option linter.unusedVariables false
set_option linter.unusedSimpArgs false
set_option maxHeartbeats 2000000
namespace Jvm.Pilot.@@N@@
open Jvm Jvm.ClassFile Sem Op Lib Jvm.Free Jvm.Stand Jvm.LawKit Jvm.RoadKit Bundle Jvm.Pilot.@@N@@.Jvm.D
section OwnKit
variable {p : Program} {l : Launch} {e : Env} {R : Room} {s : State} {m : MethodId} {args : Array Value} {below : List Frame} {meth : Method} {c : Code} {T : State} {locs : List Loc} {cells slots : Nat} {Z : State} {h h' : Heap} {a b : Addr}
def OwnWp (p : Program) (e : Env) (below : List Frame) (s : State) (C S : Nat) (Q : Option Value → Heap → List Loc → Prop) (U : State) : Prop :=
  ∃ s₂ o, Steps p.tables e below U s₂ ∧ s₂.status = .running ∧ Ended s₂ below o ∧ ∃ v L, o = .returned v ∧ Q v s₂.heap L ∧ FrameEnd s o s₂ L C S
variable {C S : Nat} {Q : Option Value → Heap → List Loc → Prop}
theorem OwnWp.step {U U' : State} (hs : ∀ t, Steps p.tables e below U' t → Steps p.tables e below U t) (k : OwnWp p e below s C S Q U') : OwnWp p e below s C S Q U := by
  obtain ⟨s2, o, h1, r⟩ := k
  exact ⟨s2, o, hs _ h1, r⟩
theorem OwnWp.go {U U' : State} (hs : Steps p.tables e below U U') (k : OwnWp p e below s C S Q U') : OwnWp p e below s C S Q U := k.step fun _ q => hs.trans q
theorem OwnWp.cast {g g' : JFrame} (q : g = g') (k : OwnWp p e below s C S Q (T.setTop g')) : OwnWp p e below s C S Q (T.setTop g) := q ▸ k
theorem OwnWp.retI (X : Stand p l e R s m args below meth c T locs cells slots) (hx : p.tables.exec = Jvm.exec) (hlk : meth.locks = false) (hret : meth.sig.returnType = some .int) {pc : Nat} {Ls : Array Slot} {z : Int32} {rest : List Value} (hd : decode c.code pc = .ok (.ireturn, 1)) (hC : cells ≤ C) (hS : slots ≤ S) (hQ : Q (some (.int z)) T.heap locs) :
    OwnWp p e below s C S Q (T.setTop (mkF m pc Ls (.int z :: rest))) := by
  obtain ⟨fs, hr, hrun, hended, hW, hsame⟩ := X.leave (v := some (.int z)) (fun h => by rw [hret] at h; cases h) hlk
  exact ⟨_, _, retOut X hx hret rfl (Or.inl ⟨rfl, Or.inl rfl, z, rfl⟩) hd hr, hrun, hended, _, _, rfl, hQ, ⟨_, rfl⟩, hW, hsame.mono hC hS⟩
theorem OwnWp.retJ (X : Stand p l e R s m args below meth c T locs cells slots) (hx : p.tables.exec = Jvm.exec) (hlk : meth.locks = false) (hret : meth.sig.returnType = some .long) {pc : Nat} {Ls : Array Slot} {z : Int64} {rest : List Value} (hd : decode c.code pc = .ok (.lreturn, 1)) (hC : cells ≤ C) (hS : slots ≤ S) (hQ : Q (some (.long z)) T.heap locs) :
    OwnWp p e below s C S Q (T.setTop (mkF m pc Ls (.long z :: rest))) := by
  obtain ⟨fs, hr, hrun, hended, hW, hsame⟩ := X.leave (v := some (.long z)) (fun h => by rw [hret] at h; cases h) hlk
  exact ⟨_, _, retOut X hx hret rfl (Or.inr (Or.inl ⟨rfl, rfl, z, rfl⟩)) hd hr, hrun, hended, _, _, rfl, hQ, ⟨_, rfl⟩, hW, hsame.mono hC hS⟩
theorem OwnWp.retA (X : Stand p l e R s m args below meth c T locs cells slots) (hx : p.tables.exec = Jvm.exec) (hlk : meth.locks = false) {t : FieldType} (hret : meth.sig.returnType = some t) (ht : t.isReference = true) {pc : Nat} {Ls : Array Slot} {z : Addr} {rest : List Value} (hn : narrow t (.ref z) = .ref z) (hd : decode c.code pc = .ok (.areturn, 1)) (hC : cells ≤ C) (hS : slots ≤ S) (hQ : Q (some (.ref z)) T.heap locs) :
    OwnWp p e below s C S Q (T.setTop (mkF m pc Ls (.ref z :: rest))) := by
  obtain ⟨fs, hr, hrun, hended, hW, hsame⟩ := X.leave (v := some (.ref z)) (fun h => by rw [hret] at h; cases h) hlk
  exact ⟨_, _, retOut X hx hret hn (Or.inr (Or.inr (Or.inr (Or.inr ⟨rfl, ht, rfl⟩)))) hd hr, hrun, hended, _, _, rfl, hQ, ⟨_, rfl⟩, hW, hsame.mono hC hS⟩
theorem OwnWp.retZ (X : Stand p l e R s m args below meth c T locs cells slots) (hx : p.tables.exec = Jvm.exec) (hlk : meth.locks = false) (hret : meth.sig.returnType = some .boolean) {pc : Nat} {Ls : Array Slot} {z : Int32} {rest : List Value} (hd : decode c.code pc = .ok (.ireturn, 1)) (hC : cells ≤ C) (hS : slots ≤ S) (hz : z = 0 ∨ z = 1) (hQ : Q (some (.int z)) T.heap locs) :
    OwnWp p e below s C S Q (T.setTop (mkF m pc Ls (.int z :: rest))) := by
  have hn : nar .boolean z = z := by rcases hz with rfl | rfl <;> rfl
  obtain ⟨fs, hr, hrun, hended, hW, hsame⟩ := X.leave (v := some (.int (nar .boolean z))) (fun h => by rw [hret] at h; cases h) hlk
  exact ⟨_, _, retN X hx hret (Or.inl rfl) hd hr, hrun, hended, _, _, rfl, by rw [hn]; exact hQ, ⟨_, rfl⟩, hW, hsame.mono hC hS⟩
theorem OwnWp.retV (X : Stand p l e R s m args below meth c T locs cells slots) (hx : p.tables.exec = Jvm.exec) (hlk : meth.locks = false) (hret : meth.sig.returnType = none) {pc : Nat} {Ls : Array Slot} (hd : decode c.code pc = .ok (.return_, 1)) (hC : cells ≤ C) (hS : slots ≤ S) (hQ : Q none T.heap locs) :
    OwnWp p e below s C S Q (T.setTop (mkF m pc Ls [])) := by
  obtain ⟨fs, hr, hrun, hended, hW, hsame⟩ := X.leave (v := none) (fun _ => rfl) hlk
  exact ⟨_, _, X.returnOut hx hret hd hr, hrun, hended, _, _, rfl, hQ, ⟨_, rfl⟩, hW, hsame.mono hC hS⟩
theorem own_widen {cells' slots' : Nat} (X : Stand p l e R s m args below meth c T locs cells slots) (h1 : cells ≤ cells') (h2 : slots ≤ slots') : Stand p l e R s m args below meth c T locs cells' slots' := { X with same := X.same.mono h1 h2 }
theorem own_lrem {g : JFrame} {target : State} (X : Stand p l e R s m args below meth c T locs cells slots) (hx : p.tables.exec = Jvm.exec) (hg : g.method = m) {x y : Int64} {rest : List Value} (hd : decode c.code g.pc = .ok (.lrem, 1)) (hs : g.stack = .long y :: .long x :: rest) (hy : y ≠ 0)
    (hr : Steps p.tables e below (T.setTop { g with pc := g.pc + 1, stack := .long (x % y) :: rest }) target) : Steps p.tables e below (T.setTop g) target :=
  XT.lrem X.here hx hg hd hs hy (by rw [lrem_mod]; exact hr)
/-- an array: its kind, its length, what place i holds -/
def OwnA (Z : State) (h : Heap) (a : Addr) (ty : FieldType) (n : Int32) (f : Int → Value) : Prop :=
  ∃ cl : Cell, Arr Z h a cl ty ∧ (cl.slots.size : Int) = n.toInt ∧ ∀ i : Int, 0 ≤ i → i < n.toInt → cl.slots[i.toNat]? = some (f i)
def ownUpd {α : Type} (f : Int → α) (j : Int) (x : α) : Int → α := fun i => if i = j then x else f i
theorem ownUpd_same {α : Type} (f : Int → α) (j : Int) (x : α) : ownUpd f j x j = x := if_pos rfl
theorem ownUpd_ne {α : Type} (f : Int → α) (j : Int) (x : α) {i : Int} (q : i ≠ j) : ownUpd f j x i = f i := if_neg q
theorem ownUpd_int (f : Int → Int32) (j : Int) (x : Int32) (i : Int) : ownUpd (fun i => Value.int (f i)) j (Value.int x) i = Value.int (ownUpd f j x i) := by unfold ownUpd; split <;> rfl
theorem ownUpd_long (f : Int → Int64) (j : Int) (x : Int64) (i : Int) : ownUpd (fun i => Value.long (f i)) j (Value.long x) i = Value.long (ownUpd f j x i) := by unfold ownUpd; split <;> rfl
variable {ty : FieldType} {n : Int32} {f : Int → Value} {ws : List Addr}
theorem OwnA.lt (F : OwnA Z h a ty n f) : a < h.size := by obtain ⟨_, A, -⟩ := F; exact A.lt
theorem OwnA.ext (F : OwnA Z h a ty n f) (E : Ext h h') : OwnA Z h' a ty n f := by obtain ⟨cl, A, r⟩ := F; exact ⟨cl, A.ext E, r⟩
theorem OwnA.keep (F : OwnA Z h a ty n f) (K : Keep h h' ws) (q : a ∉ ws) : OwnA Z h' a ty n f := by obtain ⟨cl, A, r⟩ := F; exact ⟨cl, ⟨K.2.1 a cl A.1 q, A.2⟩, r⟩
theorem OwnA.other {sl : Nat} {v : Value} (F : OwnA Z h b ty n f) (W : Wr h h' a sl v) (q : b ≠ a) : OwnA Z h' b ty n f := by obtain ⟨cl, A, r⟩ := F; exact ⟨cl, A.other W q, r⟩
theorem OwnA.len (F : OwnA Z h a ty n f) : 0 ≤ n.toInt := by obtain ⟨cl, _, r, _⟩ := F; omega
theorem OwnA.congr {f' : Int → Value} (F : OwnA Z h a ty n f) (q : ∀ i, 0 ≤ i → i < n.toInt → f i = f' i) : OwnA Z h a ty n f' := by obtain ⟨cl, A, r1, r2⟩ := F; exact ⟨cl, A, r1, fun i h1 h2 => by rw [← q i h1 h2]; exact r2 i h1 h2⟩
theorem own_clamp (j : Int32) : j.toNatClampNeg = j.toInt.toNat := rfl
theorem own_in {cl : Cell} {j : Int32} (r : (cl.slots.size : Int) = n.toInt) (h1 : 0 ≤ j.toInt) (h2 : j.toInt < n.toInt) : ¬ (j < 0 ∨ cl.slots.size ≤ j.toNatClampNeg) := by
  rw [own_clamp, Int32.lt_iff_toInt_lt, Int32.toInt_zero]; omega
theorem OwnA.new {k : ClassId} {z : Int32} (A : Arr Z h a (newA k ty z) ty) (q : 0 ≤ z.toInt) : OwnA Z h a ty z (fun _ => defaultValue ty) := by
  refine ⟨_, A, ?_, fun i h1 h2 => ?_⟩
  · rw [sz_new, own_clamp]; omega
  · have hi : i.toNat < z.toNatClampNeg := by rw [own_clamp]; omega
    show (Array.replicate z.toNatClampNeg (defaultValue ty))[i.toNat]? = _
    rw [Array.getElem?_replicate, if_pos hi]
theorem OwnA.set {j : Int32} {v : Value} (F : OwnA Z h a ty n f) (h1 : 0 ≤ j.toInt) (h2 : j.toInt < n.toInt) (W : Wr h h' a j.toNatClampNeg v) : OwnA Z h' a ty n (ownUpd f j.toInt v) := by
  obtain ⟨cl, A, r1, r2⟩ := F
  refine ⟨_, A.same W, by rw [sz_set]; exact r1, fun i g1 g2 => ?_⟩
  by_cases q : i = j.toInt
  · subst q
    rw [ownUpd_same]
    have hi : j.toNatClampNeg < cl.slots.size := by rw [own_clamp]; omega
    exact Array.getElem?_setIfInBounds_self_of_lt hi
  · rw [ownUpd_ne _ _ _ q, ← r2 i g1 g2, own_clamp]
    exact Array.getElem?_setIfInBounds_ne (by omega)
variable {g : JFrame} {target : State} {rest : List Value} {j : Int32}
theorem OwnA.alen (X : Stand p l e R s m args below meth c T locs cells slots) (hx : p.tables.exec = Jvm.exec) (hZ : Z.Warmed39 s.vm) (eT : T.heap = h) (F : OwnA Z h a ty n f) (hg : g.method = m) (hs : g.stack = .ref a :: rest) (hd : decode c.code g.pc = .ok (.arraylength, 1))
    (hr : Steps p.tables e below (T.setTop { g with pc := g.pc + 1, stack := .int n :: rest }) target) : Steps p.tables e below (T.setTop g) target := by
  obtain ⟨cl, A, r1, r2⟩ := F
  subst eT
  refine X.arraylength hx A.1 (State.isArrayOf_alike hZ.alike A.2.1) hg hs hd target ?_
  have q : cl.slots.size.toInt32 = n := by
    have q0 : cl.slots.size = n.toNatClampNeg := by rw [own_clamp]; omega
    exact len_of q0 (by rw [Int32.lt_iff_toInt_lt, Int32.toInt_zero]; omega)
  rw [q]; exact hr
theorem OwnA.ldI (X : Stand p l e R s m args below meth c T locs cells slots) (hx : p.tables.exec = Jvm.exec) (hZ : Z.Warmed39 s.vm) (eT : T.heap = h) (F : OwnA Z h a .int n f) (h1 : 0 ≤ j.toInt) (h2 : j.toInt < n.toInt) (hg : g.method = m) (hs : g.stack = .int j :: .ref a :: rest) (hd : decode c.code g.pc = .ok (.iaload, 1))
    (hr : Steps p.tables e below (T.setTop { g with pc := g.pc + 1, stack := f j.toInt :: rest }) target) : Steps p.tables e below (T.setTop g) target := by
  obtain ⟨cl, A, r1, r2⟩ := F
  subst eT
  exact X.iaload hx A.1 (State.isArrayOf_alike hZ.alike A.2.1) A.2.2 (own_in r1 h1 h2) (r2 _ h1 h2) hg hs hd target hr
theorem OwnA.ldJ (X : Stand p l e R s m args below meth c T locs cells slots) (hx : p.tables.exec = Jvm.exec) (hZ : Z.Warmed39 s.vm) (eT : T.heap = h) (F : OwnA Z h a .long n f) (h1 : 0 ≤ j.toInt) (h2 : j.toInt < n.toInt) (hg : g.method = m) (hs : g.stack = .int j :: .ref a :: rest) (hd : decode c.code g.pc = .ok (.laload, 1))
    (hr : Steps p.tables e below (T.setTop { g with pc := g.pc + 1, stack := f j.toInt :: rest }) target) : Steps p.tables e below (T.setTop g) target := by
  obtain ⟨cl, A, r1, r2⟩ := F
  subst eT
  exact X.laload hx A.1 (State.isArrayOf_alike hZ.alike A.2.1) A.2.2 (own_in r1 h1 h2) (r2 _ h1 h2) hg hs hd target hr
theorem OwnA.ldC (X : Stand p l e R s m args below meth c T locs cells slots) (hx : p.tables.exec = Jvm.exec) (hZ : Z.Warmed39 s.vm) (eT : T.heap = h) (F : OwnA Z h a .char n f) (h1 : 0 ≤ j.toInt) (h2 : j.toInt < n.toInt) (hg : g.method = m) (hs : g.stack = .int j :: .ref a :: rest) (hd : decode c.code g.pc = .ok (.caload, 1))
    (hr : Steps p.tables e below (T.setTop { g with pc := g.pc + 1, stack := f j.toInt :: rest }) target) : Steps p.tables e below (T.setTop g) target := by
  obtain ⟨cl, A, r1, r2⟩ := F
  subst eT
  exact X.caload hx A.1 (State.isArrayOf_alike hZ.alike A.2.1) A.2.2 (own_in r1 h1 h2) (r2 _ h1 h2) hg hs hd target hr
theorem OwnA.ldB (X : Stand p l e R s m args below meth c T locs cells slots) (hx : p.tables.exec = Jvm.exec) (hZ : Z.Warmed39 s.vm) (eT : T.heap = h) (F : OwnA Z h a .byte n f) (h1 : 0 ≤ j.toInt) (h2 : j.toInt < n.toInt) (hg : g.method = m) (hs : g.stack = .int j :: .ref a :: rest) (hd : decode c.code g.pc = .ok (.baload, 1))
    (hr : Steps p.tables e below (T.setTop { g with pc := g.pc + 1, stack := f j.toInt :: rest }) target) : Steps p.tables e below (T.setTop g) target := by
  obtain ⟨cl, A, r1, r2⟩ := F
  subst eT
  exact X.baloadBytes hx A.1 (State.isArrayOf_alike hZ.alike A.2.1) A.2.2 (own_in r1 h1 h2) (r2 _ h1 h2) hg hs hd target hr
theorem OwnA.ldZ (X : Stand p l e R s m args below meth c T locs cells slots) (hx : p.tables.exec = Jvm.exec) (hZ : Z.Warmed39 s.vm) (eT : T.heap = h) (F : OwnA Z h a .boolean n f) (h1 : 0 ≤ j.toInt) (h2 : j.toInt < n.toInt) (hg : g.method = m) (hs : g.stack = .int j :: .ref a :: rest) (hd : decode c.code g.pc = .ok (.baload, 1))
    (hr : Steps p.tables e below (T.setTop { g with pc := g.pc + 1, stack := f j.toInt :: rest }) target) : Steps p.tables e below (T.setTop g) target := by
  obtain ⟨cl, A, r1, r2⟩ := F
  subst eT
  exact X.baloadBooleans hx A.1 (State.isArrayOf_alike hZ.alike A.2.1) A.2.2 (own_in r1 h1 h2) (r2 _ h1 h2) hg hs hd target hr
theorem own_frs {k : Nat} {sl : Nat} (N : Fr k locs) (q : k ≤ a) : Fr k (locs ++ [⟨a, sl⟩]) := N.app fun y hy => by cases List.mem_singleton.mp hy; exact q
theorem OwnA.stI {n0 : Nat} {x : Int32} (X : Stand p l e R s m args below meth c T locs cells slots) (hx : p.tables.exec = Jvm.exec) (hZ : Z.Warmed39 s.vm) (eT : T.heap = h) (N : Fr n0 locs) (q : n0 ≤ a) (F : OwnA Z h a .int n f) (h1 : 0 ≤ j.toInt) (h2 : j.toInt < n.toInt) (hg : g.method = m) (hs : g.stack = .int x :: .int j :: .ref a :: rest) (hd : decode c.code g.pc = .ok (.iastore, 1)) :
    ∃ T' h' L', Stand p l e R s m args below meth c T' L' cells slots ∧ T'.heap = h' ∧ Fr n0 L' ∧ Keep h h' [a] ∧ OwnA Z h' a .int n (ownUpd f j.toInt (.int x)) ∧ ∀ target, Steps p.tables e below (T'.setTop { g with pc := g.pc + 1, stack := rest }) target → Steps p.tables e below (T.setTop g) target := by
  obtain ⟨cl, A, r1, r2⟩ := id F
  obtain ⟨T', h', X', e', W, st⟩ := RoadKit.stI X hx hZ eT A (own_in r1 h1 h2) hg hs hd
  exact ⟨T', h', _, X', e', own_frs N q, Keep.of_wr W, F.set h1 h2 W, st⟩
theorem OwnA.stJ {n0 : Nat} {x : Int64} (X : Stand p l e R s m args below meth c T locs cells slots) (hx : p.tables.exec = Jvm.exec) (hZ : Z.Warmed39 s.vm) (eT : T.heap = h) (N : Fr n0 locs) (q : n0 ≤ a) (F : OwnA Z h a .long n f) (h1 : 0 ≤ j.toInt) (h2 : j.toInt < n.toInt) (hg : g.method = m) (hs : g.stack = .long x :: .int j :: .ref a :: rest) (hd : decode c.code g.pc = .ok (.lastore, 1)) :
    ∃ T' h' L', Stand p l e R s m args below meth c T' L' cells slots ∧ T'.heap = h' ∧ Fr n0 L' ∧ Keep h h' [a] ∧ OwnA Z h' a .long n (ownUpd f j.toInt (.long x)) ∧ ∀ target, Steps p.tables e below (T'.setTop { g with pc := g.pc + 1, stack := rest }) target → Steps p.tables e below (T.setTop g) target := by
  obtain ⟨cl, A, r1, r2⟩ := id F
  obtain ⟨T', h', X', e', W, st⟩ := RoadKit.stJ X hx hZ eT A (own_in r1 h1 h2) hg hs hd
  exact ⟨T', h', _, X', e', own_frs N q, Keep.of_wr W, F.set h1 h2 W, st⟩
theorem OwnA.stC {n0 : Nat} {x : Int32} (X : Stand p l e R s m args below meth c T locs cells slots) (hx : p.tables.exec = Jvm.exec) (hZ : Z.Warmed39 s.vm) (eT : T.heap = h) (N : Fr n0 locs) (q : n0 ≤ a) (F : OwnA Z h a .char n f) (h1 : 0 ≤ j.toInt) (h2 : j.toInt < n.toInt) (hg : g.method = m) (hs : g.stack = .int x :: .int j :: .ref a :: rest) (hd : decode c.code g.pc = .ok (.castore, 1)) :
    ∃ T' h' L', Stand p l e R s m args below meth c T' L' cells slots ∧ T'.heap = h' ∧ Fr n0 L' ∧ Keep h h' [a] ∧ OwnA Z h' a .char n (ownUpd f j.toInt (.int (nar .char x))) ∧ ∀ target, Steps p.tables e below (T'.setTop { g with pc := g.pc + 1, stack := rest }) target → Steps p.tables e below (T.setTop g) target := by
  obtain ⟨cl, A, r1, r2⟩ := id F
  obtain ⟨T', h', X', e', W, st⟩ := RoadKit.stC X hx hZ eT A (own_in r1 h1 h2) hg hs hd
  exact ⟨T', h', _, X', e', own_frs N q, Keep.of_wr W, F.set h1 h2 W, st⟩
theorem OwnA.stB {n0 : Nat} {x : Int32} (X : Stand p l e R s m args below meth c T locs cells slots) (hx : p.tables.exec = Jvm.exec) (hZ : Z.Warmed39 s.vm) (eT : T.heap = h) (N : Fr n0 locs) (q : n0 ≤ a) (F : OwnA Z h a .byte n f) (h1 : 0 ≤ j.toInt) (h2 : j.toInt < n.toInt) (hg : g.method = m) (hs : g.stack = .int x :: .int j :: .ref a :: rest) (hd : decode c.code g.pc = .ok (.bastore, 1)) :
    ∃ T' h' L', Stand p l e R s m args below meth c T' L' cells slots ∧ T'.heap = h' ∧ Fr n0 L' ∧ Keep h h' [a] ∧ OwnA Z h' a .byte n (ownUpd f j.toInt (.int (nar .byte x))) ∧ ∀ target, Steps p.tables e below (T'.setTop { g with pc := g.pc + 1, stack := rest }) target → Steps p.tables e below (T.setTop g) target := by
  obtain ⟨cl, A, r1, r2⟩ := id F
  obtain ⟨T', h', X', e', W, st⟩ := RoadKit.stB X hx hZ eT A (own_in r1 h1 h2) hg hs hd
  exact ⟨T', h', _, X', e', own_frs N q, Keep.of_wr W, F.set h1 h2 W, st⟩
theorem OwnA.stZ {n0 : Nat} {x : Int32} (X : Stand p l e R s m args below meth c T locs cells slots) (hx : p.tables.exec = Jvm.exec) (hZ : Z.Warmed39 s.vm) (eT : T.heap = h) (N : Fr n0 locs) (q : n0 ≤ a) (F : OwnA Z h a .boolean n f) (h1 : 0 ≤ j.toInt) (h2 : j.toInt < n.toInt) (hg : g.method = m) (hs : g.stack = .int x :: .int j :: .ref a :: rest) (hd : decode c.code g.pc = .ok (.bastore, 1)) :
    ∃ T' h' L', Stand p l e R s m args below meth c T' L' cells slots ∧ T'.heap = h' ∧ Fr n0 L' ∧ Keep h h' [a] ∧ OwnA Z h' a .boolean n (ownUpd f j.toInt (.int (nar .boolean x))) ∧ ∀ target, Steps p.tables e below (T'.setTop { g with pc := g.pc + 1, stack := rest }) target → Steps p.tables e below (T.setTop g) target := by
  obtain ⟨cl, A, r1, r2⟩ := id F
  obtain ⟨T', h', X', e', W, st⟩ := RoadKit.stZ X hx hZ eT A (own_in r1 h1 h2) hg hs hd
  exact ⟨T', h', _, X', e', own_frs N q, Keep.of_wr W, F.set h1 h2 W, st⟩
end OwnKit
theorem own_ofi {n : Int} (h1 : -2147483648 ≤ n) (h2 : n < 2147483648) : (Int32.ofInt n).toInt = n := by
  rw [Int32.toInt_ofInt, show Int32.size = 4294967296 from rfl, Int.bmod_eq_of_le (by omega) (by omega)]
theorem own_ofj {n : Int} (h1 : -9223372036854775808 ≤ n) (h2 : n < 9223372036854775808) : (Int64.ofInt n).toInt = n := by
  rw [Int64.toInt_ofInt, show Int64.size = 18446744073709551616 from rfl, Int.bmod_eq_of_le (by omega) (by omega)]
/-- an int between 0 and n is one of finitely many -/
theorem own_fin {x : Int32} {n : Nat} (h1 : 0 ≤ x.toInt) (h2 : x.toInt < n) : ∃ k : Fin n, x = Int32.ofInt (k.1 : Int) := by
  have h3 := x.toInt_lt
  refine ⟨⟨x.toInt.toNat, by omega⟩, Int32.toInt_inj.mp ?_⟩
  show _ = (Int32.ofInt ((x.toInt.toNat : Nat) : Int)).toInt
  rw [own_ofi (by omega) (by omega)]; omega
def own_p (i : Int) : Int64 := Int64.ofInt (10 ^ i.toNat)
/-- what write leaves: outside as it was, inside the digits -/
def own_wrote (f g : Int → Int32) (b e v : Int32) : Prop := (∀ j : Int, j < b.toInt ∨ e.toInt ≤ j → g j = f j) ∧ ∀ j : Int, b.toInt ≤ j → j < e.toInt → (g j).toInt = 48 + (v.toInt / 10 ^ (e.toInt - 1 - j).toNat) % 10
/-- the same under way: the places above i and below e are written -/
def own_at (f g : Int → Int32) (e v : Int32) (i j : Int) : Prop := (j ≤ i ∨ e.toInt ≤ j → g j = f j) ∧ (i < j → j < e.toInt → (g j).toInt = 48 + (v.toInt / 10 ^ (e.toInt - 1 - j).toNat) % 10)
theorem own_char (r : Int32) (h : 0 ≤ r.toInt) : (nar .char ((48 : Int32) + (r % (10 : Int32))).toUInt32.toUInt16.toUInt32.toInt32).toInt = 48 + r.toInt % 10 := by
  have a1 := (c_irem r 10 10 rfl).1 h
  have a2 := c_iadd 48 (r % 10)
  rw [show (48 : Int32).toInt = 48 from rfl] at a2
  have a3 := rng32 (48 + r % 10)
  have a4 := c_i2c (48 + r % 10)
  have a5 := c_i2c (48 + r % 10).toUInt32.toUInt16.toUInt32.toInt32
  show ((48 + r % 10).toUInt32.toUInt16.toUInt32.toInt32.toUInt32.toUInt16.toUInt32.toInt32).toInt = _
  omega
theorem own_pdiv (x : Int) (n : Nat) : x / 10 ^ n / 10 = x / 10 ^ (n + 1) := by
  rw [Int.pow_succ, Int.ediv_ediv_of_nonneg (Int.pow_nonneg (by decide))]
theorem own_turn (p1 p2 p3 : Int32) (hv : 0 ≤ p3.toInt) (hb : 0 ≤ p1.toInt) (k : Nat) (i rs : Int32) (f g : Int → Int32) (i2 r2 : Int32) (hi : i.toInt + 1 = p1.toInt + ((k + 1 : Nat) : Int)) (hk : p1.toInt + ((k + 1 : Nat) : Int) ≤ p2.toInt)
    (hr : rs.toInt = p3.toInt / 10 ^ (p2.toInt - p1.toInt - ((k + 1 : Nat) : Int)).toNat) (hf : ∀ j : Int, own_at f g p2 p3 i.toInt j) (q2 : i2 = i + ((-1) : Int32)) (q1 : r2 = rs / (10 : Int32)) :
    i2.toInt + 1 = p1.toInt + (k : Int) ∧ p1.toInt + (k : Int) ≤ p2.toInt ∧ r2.toInt = p3.toInt / 10 ^ (p2.toInt - p1.toInt - (k : Int)).toNat ∧ ∀ j : Int, own_at f (ownUpd g i.toInt (nar .char ((48 : Int32) + (rs % (10 : Int32))).toUInt32.toUInt16.toUInt32.toInt32)) p2 p3 i2.toInt j := by
  have a1 := c_iadd i (-1)
  rw [← q2, show ((-1) : Int32).toInt = -1 from rfl] at a1
  have a2 := rng32 i2
  have a8 := rng32 i
  have h0 : 0 ≤ rs.toInt := by rw [hr]; exact Int.ediv_nonneg hv (Int.pow_nonneg (by decide))
  have hi2 : i2.toInt = i.toInt - 1 := by omega
  refine ⟨by omega, by omega, ?_, fun j => ⟨fun h => ?_, fun h1 h2 => ?_⟩⟩
  · have a3 := (c_idiv rs 10 10 rfl (by decide)).1 h0
    rw [q1, a3, hr, own_pdiv, show (p2.toInt - p1.toInt - ((k + 1 : Nat) : Int)).toNat + 1 = (p2.toInt - p1.toInt - (k : Int)).toNat from by omega]
  · rw [ownUpd_ne _ _ _ (by omega)]
    exact (hf j).1 (by omega)
  · by_cases q : j = i.toInt
    · subst q
      rw [ownUpd_same, own_char rs h0, hr]
      rw [show (p2.toInt - 1 - i.toInt).toNat = (p2.toInt - p1.toInt - ((k + 1 : Nat) : Int)).toNat from by omega]
    · rw [ownUpd_ne _ _ _ q]
      exact (hf j).2 (by omega) h2
theorem own_done (f g : Int → Int32) (p1 p2 p3 : Int32) (i : Int) (hi : i + 1 = p1.toInt) (hf : ∀ j : Int, own_at f g p2 p3 i j) : own_wrote f g p1 p2 p3 :=
  ⟨fun j h => (hf j).1 (by omega), fun j h1 h2 => (hf j).2 (by omega) h2⟩
theorem own_i0e (p2 i : Int32) (q : i = p2 - (1 : Int32)) {p1 : Int32} (hbe : p1.toInt ≤ p2.toInt) (hb : 0 ≤ p1.toInt) (he : p2.toInt ≤ 14) : i.toInt = p2.toInt - 1 := by
  have a := c_isub p2 1
  rw [← q, show (1 : Int32).toInt = 1 from rfl] at a
  have b := rng32 i
  omega
theorem own_i0 (p1 p2 i : Int32) (q : i = p2 - (1 : Int32)) (hb : 0 ≤ p1.toInt) (hbe : p1.toInt ≤ p2.toInt) (he : p2.toInt ≤ 14) : i.toInt + 1 = p1.toInt + (((p2.toInt - p1.toInt).toNat : Nat) : Int) := by
  have := own_i0e p2 i q hbe hb he
  omega
theorem own_at0 (f : Int → Int32) (p2 p3 : Int32) (i j : Int) (hi : i = p2.toInt - 1) : own_at f f p2 p3 i j := ⟨fun _ => rfl, fun h1 h2 => absurd h2 (by omega)⟩
theorem own_powle (n : Nat) (h : n ≤ 11) : (10 : Int) ^ n ≤ 100000000000 := by
  have h1 : (10 : Nat) ^ n ≤ 10 ^ 11 := Nat.pow_le_pow_right (by decide) h
  have h2 : ((10 ^ n : Nat) : Int) = (10 : Int) ^ n := by push_cast; rfl
  rw [← h2]
  have h3 : (10 : Nat) ^ 11 = 100000000000 := by decide
  omega
theorem own_powpos (n : Nat) : (1 : Int) ≤ (10 : Int) ^ n := by
  have h1 : 1 ≤ (10 : Nat) ^ n := Nat.le_trans Nat.one_le_two_pow (Nat.pow_le_pow_left (by decide) n)
  have h2 : ((10 ^ n : Nat) : Int) = (10 : Int) ^ n := by push_cast; rfl
  rw [← h2]; omega
theorem own_pI (i : Int) (h : i.toNat ≤ 11) : (own_p i).toInt = 10 ^ i.toNat := by
  have h1 := own_powle i.toNat h
  have h2 := own_powpos i.toNat
  unfold own_p
  exact own_ofj (by omega) (by omega)
theorem own_k (p1 p2 p3 : Int32) (h1 : 0 ≤ p1.toInt ∧ p1.toInt < 14) (hb : 0 ≤ p2.toInt ∧ p2.toInt ≤ p3.toInt ∧ p3.toInt ≤ 14 ∧ p3.toInt - p2.toInt ≤ 11) (hc1 : ¬ p1.toInt < p2.toInt) (hc2 : p1.toInt < p3.toInt) (k : Int32) (q : k = (p3 - (1 : Int32)) - p1) :
    0 ≤ k.toInt ∧ k.toInt < (12 : Int32).toInt ∧ k.toInt = p3.toInt - 1 - p1.toInt := by
  have a := c_isub p3 1
  rw [show (1 : Int32).toInt = 1 from rfl] at a
  have b := c_isub (p3 - 1) p1
  rw [← q] at b
  have c := rng32 k
  have d := rng32 (p3 - 1)
  rw [show (12 : Int32).toInt = 12 from rfl]
  omega
theorem own_pne (i : Int) (h1 : 0 ≤ i) (h2 : i < (12 : Int32).toInt) : own_p i ≠ 0 := fun h => by
  rw [show (12 : Int32).toInt = 12 from rfl] at h2
  have a := own_pI i (by omega)
  have b := own_powpos i.toNat
  rw [h, show (0 : Int64).toInt = 0 from rfl] at a
  omega
theorem own_eq (g : Int → Int32) (p1 p2 p3 p4 : Int32) (h1 : 0 ≤ p1.toInt ∧ p1.toInt < 14) (hv : 0 ≤ p4.toInt) (hb : 0 ≤ p2.toInt ∧ p2.toInt ≤ p3.toInt ∧ p3.toInt ≤ 14 ∧ p3.toInt - p2.toInt ≤ 11) (hc1 : ¬ p1.toInt < p2.toInt) (hc2 : p1.toInt < p3.toInt)
    (w1 : Int32) (q1 : w1 = (p3 - (1 : Int32)) - p1) (w2 : Int32) (q2 : w2 = ((p4.toInt64 / (own_p w1.toInt)) % (10 : Int64)).toInt32) (w3 : Int32) (q3 : w3 = (if (g p1.toInt) = ((48 : Int32) + w2).toUInt32.toUInt16.toUInt32.toInt32 then (1 : Int32) else (0 : Int32)))
    (hB : (g p1.toInt).toInt = 48 + (p4.toInt / 10 ^ (p3.toInt - 1 - p1.toInt).toNat) % 10) : w3 = 1 := by
  obtain ⟨k1, k2, k3⟩ := own_k p1 p2 p3 h1 hb hc1 hc2 w1 q1
  rw [show (12 : Int32).toInt = 12 from rfl] at k2
  have e1 := own_pI w1.toInt (by omega)
  have e2 := own_powpos w1.toInt.toNat
  have e3 : (p4.toInt64 / own_p w1.toInt).toInt = p4.toInt / 10 ^ w1.toInt.toNat := by
    have hne : own_p w1.toInt ≠ -1 := fun h => by rw [h, show ((-1) : Int64).toInt = -1 from rfl] at e1; omega
    rw [(c_ldiv p4.toInt64 (own_p w1.toInt) _ e1 hne).1 (by rw [c_i2l]; exact hv), c_i2l]
  have e4 : 0 ≤ (p4.toInt64 / own_p w1.toInt).toInt := by rw [e3]; exact Int.ediv_nonneg hv (by omega)
  have e5 := (c_lrem (p4.toInt64 / own_p w1.toInt) 10 10 rfl).1 e4
  rw [lrem_mod, e3] at e5
  have e6 := c_l2i ((p4.toInt64 / own_p w1.toInt) % 10)
  rw [← q2, e5] at e6
  have e7 := rng32 w2
  have e8 := c_iadd 48 w2
  rw [show (48 : Int32).toInt = 48 from rfl] at e8
  have e9 := rng32 (48 + w2)
  have e10 := c_i2c (48 + w2)
  rw [q3, if_pos]
  apply Int32.toInt_inj.mp
  rw [hB, show (p3.toInt - 1 - p1.toInt).toNat = w1.toInt.toNat from by rw [k3]]
  generalize p4.toInt / 10 ^ w1.toInt.toNat = z at *
  omega
theorem own_wd (p w : Int32) (q : w = (p &&& (2147483647 : Int32)) % (12 : Int32)) : 0 ≤ w.toInt ∧ w.toInt ≤ 11 := by
  have a1 := c_mask p 2147483647 31 (by decide) (by decide)
  have a2 := (c_irem (p &&& 2147483647) 12 12 rfl).1 (by omega)
  rw [← q] at a2
  omega
theorem own_15 (w : Int32) (h : 0 ≤ w.toInt ∧ w.toInt ≤ 11) : ((15 : Int32) - w).toInt = 15 - w.toInt := by
  have a := c_isub 15 w
  rw [show (15 : Int32).toInt = 15 from rfl] at a
  have b := rng32 (15 - w)
  omega
theorem own_w15 (p w : Int32) (q : w = (p &&& (2147483647 : Int32)) % (12 : Int32)) : (15 : Int32) - w ≠ 0 := fun h => by
  have a := own_wd p w q
  have b := own_15 w a
  rw [h, show (0 : Int32).toInt = 0 from rfl] at b
  omega
theorem own_rngs (p1 p2 p3 v : Int32) (qv : v = p1 &&& (2147483647 : Int32)) (w : Int32) (qw : w = (p2 &&& (2147483647 : Int32)) % (12 : Int32)) (b : Int32) (qb : b = (p3 &&& (2147483647 : Int32)) % ((15 : Int32) - w)) (e : Int32) (qe : e = b + w) :
    0 ≤ v.toInt ∧ 0 ≤ b.toInt ∧ b.toInt ≤ e.toInt ∧ e.toInt ≤ 14 ∧ e.toInt - b.toInt ≤ 11 := by
  have a1 := c_mask p1 2147483647 31 (by decide) (by decide)
  rw [← qv] at a1
  have a2 := own_wd p2 w qw
  have a3 := own_15 w a2
  have a4 := c_mask p3 2147483647 31 (by decide) (by decide)
  have a5 := (c_iremV (p3 &&& 2147483647) (15 - w)).1 (by omega) (by omega)
  rw [← qb] at a5
  have a6 := c_iadd b w
  rw [← qe] at a6
  have a7 := rng32 e
  omega

theorem d1_0 : decode prog_18_method_6_code 0 = .ok (.iload_n 3, 1) := by decide +kernel
theorem d1_1 : decode prog_18_method_6_code 1 = .ok (.istore 4, 2) := by decide +kernel
theorem d1_3 : decode prog_18_method_6_code 3 = .ok (.iload_n 2, 1) := by decide +kernel
theorem d1_4 : decode prog_18_method_6_code 4 = .ok (.iconst 1, 1) := by decide +kernel
theorem d1_5 : decode prog_18_method_6_code 5 = .ok (.isub, 1) := by decide +kernel
theorem d1_6 : decode prog_18_method_6_code 6 = .ok (.istore 5, 2) := by decide +kernel
theorem d1_8 : decode prog_18_method_6_code 8 = .ok (.iload 5, 2) := by decide +kernel
theorem d1_10 : decode prog_18_method_6_code 10 = .ok (.iload_n 1, 1) := by decide +kernel
theorem d1_11 : decode prog_18_method_6_code 11 = .ok (.if_icmp .lt 29, 3) := by decide +kernel
theorem d1_14 : decode prog_18_method_6_code 14 = .ok (.aload_n 0, 1) := by decide +kernel
theorem d1_15 : decode prog_18_method_6_code 15 = .ok (.iload 5, 2) := by decide +kernel
theorem d1_17 : decode prog_18_method_6_code 17 = .ok (.bipush 48, 2) := by decide +kernel
theorem d1_19 : decode prog_18_method_6_code 19 = .ok (.iload 4, 2) := by decide +kernel
theorem d1_21 : decode prog_18_method_6_code 21 = .ok (.bipush 10, 2) := by decide +kernel
theorem d1_23 : decode prog_18_method_6_code 23 = .ok (.irem, 1) := by decide +kernel
theorem d1_24 : decode prog_18_method_6_code 24 = .ok (.iadd, 1) := by decide +kernel
theorem d1_25 : decode prog_18_method_6_code 25 = .ok (.i2c, 1) := by decide +kernel
theorem d1_26 : decode prog_18_method_6_code 26 = .ok (.castore, 1) := by decide +kernel
theorem d1_27 : decode prog_18_method_6_code 27 = .ok (.iload 4, 2) := by decide +kernel
theorem d1_29 : decode prog_18_method_6_code 29 = .ok (.bipush 10, 2) := by decide +kernel
theorem d1_31 : decode prog_18_method_6_code 31 = .ok (.idiv, 1) := by decide +kernel
theorem d1_32 : decode prog_18_method_6_code 32 = .ok (.istore 4, 2) := by decide +kernel
theorem d1_34 : decode prog_18_method_6_code 34 = .ok (.iinc 5 (-1), 3) := by decide +kernel
theorem d1_37 : decode prog_18_method_6_code 37 = .ok (.goto (-29), 3) := by decide +kernel
theorem d1_40 : decode prog_18_method_6_code 40 = .ok (.return_, 1) := by decide +kernel
theorem pn_1 : plainFor (⟨"com/example/kalend/kalend/util/Digits", "write", "([CIII)V"⟩ : MethodName) = true := plainFor_of_name (by first | (simp [plainName, overriddenIn]; done) | decide +kernel)
theorem pd_1 : parseMethodDescriptor "([CIII)V" = some ⟨[(.array .char), .int, .int, .int], none⟩ := by decide +kernel
theorem ef_1 (m : MethodId) (x0 : Addr) (x1 : Int32) (x2 : Int32) (x3 : Int32) : entryFrame m #[(.ref x0), (.int x1), (.int x2), (.int x3)] 6 = mkF m 0 #[.val (.ref x0), .val (.int x1), .val (.int x2), .val (.int x3), .unset, .unset] [] := by first | (simp [entryFrame, mkF, argsToLocals, Value.category, maxLocals]; done) | rfl
def Q1 (Z : State) (a1 : Addr) (p1 : Int32) (p2 : Int32) (p3 : Int32) (f : Int → Int32) (h0 : Heap) (n0 : Nat) (v : Option Value) (h : Heap) (L : List Loc) : Prop := v = none ∧ Fr n0 L ∧ Keep h0 h [a1] ∧ ∃ g : Int → Int32, OwnA Z h a1 .char (14 : Int32) (fun i => .int (g i)) ∧ own_wrote f g p1 p2 p3
set_option maxRecDepth 65536 in
set_option maxHeartbeats 40000000 in
theorem rm1 (l : Launch) (Z : State) (a0 : Array Value) (hw : ∀ d ∈ tables_1, d.before a0 Z = true) (ws : List Jvm.Cond) (a1 : Addr) (p1 : Int32) (p2 : Int32) (p3 : Int32) (f : Int → Int32) (h0 : Heap) (n0 : Nat) (Z0 : n0 ≤ h0.size) (g0 : n0 ≤ a1) (A0 : OwnA Z h0 a1 .char (14 : Int32) (fun i => .int (f i))) (hbg : 0 ≤ p1.toInt) (hbe : p1.toInt ≤ p2.toInt) (he : p2.toInt ≤ 14) (hv : 0 ≤ p3.toInt) :
    MetFree l (⟨"com/example/kalend/kalend/util/Digits", "write", "([CIII)V"⟩ : MethodName) (head1 (Jvm.Cond.code (⟨"com/example/kalend/kalend/util/Digits", "write", "([CIII)V"⟩ : MethodName) prog_18_method_6_code 6 none :: ws) ({ frames := 0, cells := 0, slots := 0, locals := 0 } : Room)) (fun a U => a = #[(.ref a1), (.int p1), (.int p2), (.int p3)] ∧ Z.Warmed39 U.vm ∧ U.heap = h0) (fun _ _ _ _ _ => True) (fun _ U oc U' => ∃ v L, oc = .returned v ∧ Q1 Z a1 p1 p2 p3 f h0 n0 v U'.heap L ∧ FrameEnd U oc U' L ({ frames := 0, cells := 0, slots := 0, locals := 0 } : Room).cells ({ frames := 0, cells := 0, slots := 0, locals := 0 } : Room).slots) := by
  refine MetFree.of_bodySF pn_1 hisR ?_
  intro p e s m args below meth c s₁ Bd hml0 hP hK
  obtain ⟨rfl, hZ, hh⟩ := hP
  have hx := Bd.exec
  have hby := Bd.bytes
  have hlk := BodyLoose.notSynchronized Bd
  have hml : c.maxLocals = 6 := hml0
  have hown : s.vm.findClass "com/example/kalend/kalend/util/Digits" = some m.cls := findClass_of_methodNamed Bd.named
  have hnm := (name_of_methodNamed Bd.named Bd.method).1
  have X0 : Stand p l e ({ frames := 0, cells := 0, slots := 0, locals := 0 } : Room) s m #[(.ref a1), (.int p1), (.int p2), (.int p3)] below meth c s₁ [] 0 0 := Stand.of_body Bd
  have e0 : s₁.heap = h0 := by rw [← hh, Bd.state]; rfl
  have N0 := Fr.nil n0
  show OwnWp p e below s ({ frames := 0, cells := 0, slots := 0, locals := 0 } : Room).cells ({ frames := 0, cells := 0, slots := 0, locals := 0 } : Room).slots (Q1 Z a1 p1 p2 p3 f h0 n0) (s₁.setTop (entryFrame m #[(.ref a1), (.int p1), (.int p2), (.int p3)] 6))
  refine OwnWp.cast (ef_1 m a1 p1 p2 p3) ?_
  show OwnWp p e below s _ _ _ (s₁.setTop (mkF m 0 #[.val (.ref a1), .val (.int p1), .val (.int p2), .val (.int p3), .unset, .unset] []))
  have K0 := Keep.refl h0 [a1]
  obtain ⟨w1, qw1⟩ : ∃ z : Int32, z = (p2 - (1 : Int32)) := ⟨_, rfl⟩
  refine OwnWp.step (U' := s₁.setTop (mkF m 8 #[.val (.ref a1), .val (.int p1), .val (.int p2), .val (.int p3), .val (.int p3), .val (.int w1)] [])) (fun t k => ?_) ?_
  · show Steps p.tables e below (s₁.setTop (mkF m 0 #[.val (.ref a1), .val (.int p1), .val (.int p2), .val (.int p3), .unset, .unset] [])) _
    refine XS.iloadN X0.here hx rfl (hb hby d1_0) rfl ?_
    show Steps p.tables e below (s₁.setTop (mkF m 1 #[.val (.ref a1), .val (.int p1), .val (.int p2), .val (.int p3), .unset, .unset] [(.int p3)])) _
    refine XS.istore X0.here hx rfl (hb hby d1_1) rfl (l' := #[.val (.ref a1), .val (.int p1), .val (.int p2), .val (.int p3), .val (.int p3), .unset]) rfl ?_
    show Steps p.tables e below (s₁.setTop (mkF m 3 #[.val (.ref a1), .val (.int p1), .val (.int p2), .val (.int p3), .val (.int p3), .unset] [])) _
    refine XS.iloadN X0.here hx rfl (hb hby d1_3) rfl ?_
    show Steps p.tables e below (s₁.setTop (mkF m 4 #[.val (.ref a1), .val (.int p1), .val (.int p2), .val (.int p3), .val (.int p3), .unset] [(.int p2)])) _
    refine XT.iconstV X0.here hx rfl (1 : Int32) (hb hby d1_4) rfl ?_
    show Steps p.tables e below (s₁.setTop (mkF m 5 #[.val (.ref a1), .val (.int p1), .val (.int p2), .val (.int p3), .val (.int p3), .unset] [(.int (1 : Int32)), (.int p2)])) _
    refine XS.isub X0.here hx rfl (hb hby d1_5) rfl ?_
    show Steps p.tables e below (s₁.setTop (mkF m 6 #[.val (.ref a1), .val (.int p1), .val (.int p2), .val (.int p3), .val (.int p3), .unset] [(.int (p2 - (1 : Int32)))])) _
    refine XS.istore X0.here hx rfl (hb hby d1_6) rfl (l' := #[.val (.ref a1), .val (.int p1), .val (.int p2), .val (.int p3), .val (.int p3), .val (.int (p2 - (1 : Int32)))]) rfl ?_
    show Steps p.tables e below (s₁.setTop (mkF m 8 #[.val (.ref a1), .val (.int p1), .val (.int p2), .val (.int p3), .val (.int p3), .val (.int (p2 - (1 : Int32)))] [])) _
    rw [qw1] at k
    exact k
  have hloop : ∀ (k : Nat) (T1 : State) (h1 : Heap) (L1 : List Loc) (i : Int32) (rs : Int32) (g : Int → Int32) (X1 : Stand p l e ({ frames := 0, cells := 0, slots := 0, locals := 0 } : Room) s m #[(.ref a1), (.int p1), (.int p2), (.int p3)] below meth c T1 L1 0 0) (e1 : T1.heap = h1) (N1 : Fr n0 L1) (Z1 : n0 ≤ h1.size) (f2 : OwnA Z h1 a1 .char (14 : Int32) (fun i => .int (g i))) (K3 : Keep h0 h1 [a1]) (hi : i.toInt + 1 = p1.toInt + (k : Int)) (hk : p1.toInt + (k : Int) ≤ p2.toInt) (hr : rs.toInt = p3.toInt / 10 ^ (p2.toInt - p1.toInt - (k : Int)).toNat) (hf : ∀ j : Int, own_at f g p2 p3 i.toInt j), OwnWp p e below s ({ frames := 0, cells := 0, slots := 0, locals := 0 } : Room).cells ({ frames := 0, cells := 0, slots := 0, locals := 0 } : Room).slots (Q1 Z a1 p1 p2 p3 f h0 n0) (T1.setTop (mkF m 8 #[.val (.ref a1), .val (.int p1), .val (.int p2), .val (.int p3), .val (.int rs), .val (.int i)] [])) := by
    intro k
    induction k with
    | zero =>
      intro T1 h1 L1 i rs g X1 e1 N1 Z1 f2 K3 hi hk hr hf
      refine OwnWp.step (U' := T1.setTop (mkF m 11 #[.val (.ref a1), .val (.int p1), .val (.int p2), .val (.int p3), .val (.int rs), .val (.int i)] [(.int p1), (.int i)])) (fun t k => ?_) ?_
      · show Steps p.tables e below (T1.setTop (mkF m 8 #[.val (.ref a1), .val (.int p1), .val (.int p2), .val (.int p3), .val (.int rs), .val (.int i)] [])) _
        refine XS.iload X1.here hx rfl (hb hby d1_8) rfl ?_
        show Steps p.tables e below (T1.setTop (mkF m 10 #[.val (.ref a1), .val (.int p1), .val (.int p2), .val (.int p3), .val (.int rs), .val (.int i)] [(.int i)])) _
        refine XS.iloadN X1.here hx rfl (hb hby d1_10) rfl ?_
        show Steps p.tables e below (T1.setTop (mkF m 11 #[.val (.ref a1), .val (.int p1), .val (.int p2), .val (.int p3), .val (.int rs), .val (.int i)] [(.int p1), (.int i)])) _
        exact k
      by_cases c11_4 : i < p1
      · refine OwnWp.step (U' := T1.setTop (mkF m 40 #[.val (.ref a1), .val (.int p1), .val (.int p2), .val (.int p3), .val (.int rs), .val (.int i)] [])) (fun t k => ?_) ?_
        · show Steps p.tables e below (T1.setTop (mkF m 11 #[.val (.ref a1), .val (.int p1), .val (.int p2), .val (.int p3), .val (.int rs), .val (.int i)] [(.int p1), (.int i)])) _
          refine XS.icmpYes X1.here hx rfl (pc0 := 11) (pc' := 40) rfl (hb hby d1_11) rfl (XT.ii_lt_t c11_4) (by decide) (by decide) ?_
          exact k
        have hsg : i.toInt < p1.toInt := by rw [Int32.lt_iff_toInt_lt] at c11_4; exact c11_4
        refine OwnWp.retV X1 hx hlk Bd.returns (hb hby d1_40) (by decide) (by decide) ?_
        rw [e1]
        exact ⟨rfl, N1, K3, g, f2, own_done f g p1 p2 p3 i.toInt (by omega) hf⟩
      · refine OwnWp.step (U' := T1.setTop (mkF m 14 #[.val (.ref a1), .val (.int p1), .val (.int p2), .val (.int p3), .val (.int rs), .val (.int i)] [])) (fun t k => ?_) ?_
        · show Steps p.tables e below (T1.setTop (mkF m 11 #[.val (.ref a1), .val (.int p1), .val (.int p2), .val (.int p3), .val (.int rs), .val (.int i)] [(.int p1), (.int i)])) _
          refine XS.icmpNo X1.here hx rfl (hb hby d1_11) rfl (XT.ii_lt_f c11_4) ?_
          exact k
        have hsg : ¬ i.toInt < p1.toInt := by rw [Int32.lt_iff_toInt_lt] at c11_4; exact c11_4
        exact absurd hi (by omega)
    | succ k ih =>
      intro T1 h1 L1 i rs g X1 e1 N1 Z1 f2 K3 hi hk hr hf
      refine OwnWp.step (U' := T1.setTop (mkF m 11 #[.val (.ref a1), .val (.int p1), .val (.int p2), .val (.int p3), .val (.int rs), .val (.int i)] [(.int p1), (.int i)])) (fun t k => ?_) ?_
      · show Steps p.tables e below (T1.setTop (mkF m 8 #[.val (.ref a1), .val (.int p1), .val (.int p2), .val (.int p3), .val (.int rs), .val (.int i)] [])) _
        refine XS.iload X1.here hx rfl (hb hby d1_8) rfl ?_
        show Steps p.tables e below (T1.setTop (mkF m 10 #[.val (.ref a1), .val (.int p1), .val (.int p2), .val (.int p3), .val (.int rs), .val (.int i)] [(.int i)])) _
        refine XS.iloadN X1.here hx rfl (hb hby d1_10) rfl ?_
        show Steps p.tables e below (T1.setTop (mkF m 11 #[.val (.ref a1), .val (.int p1), .val (.int p2), .val (.int p3), .val (.int rs), .val (.int i)] [(.int p1), (.int i)])) _
        exact k
      by_cases c11_5 : i < p1
      · refine OwnWp.step (U' := T1.setTop (mkF m 40 #[.val (.ref a1), .val (.int p1), .val (.int p2), .val (.int p3), .val (.int rs), .val (.int i)] [])) (fun t k => ?_) ?_
        · show Steps p.tables e below (T1.setTop (mkF m 11 #[.val (.ref a1), .val (.int p1), .val (.int p2), .val (.int p3), .val (.int rs), .val (.int i)] [(.int p1), (.int i)])) _
          refine XS.icmpYes X1.here hx rfl (pc0 := 11) (pc' := 40) rfl (hb hby d1_11) rfl (XT.ii_lt_t c11_5) (by decide) (by decide) ?_
          exact k
        have hsg : i.toInt < p1.toInt := by rw [Int32.lt_iff_toInt_lt] at c11_5; exact c11_5
        exact absurd hi (by omega)
      · refine OwnWp.step (U' := T1.setTop (mkF m 14 #[.val (.ref a1), .val (.int p1), .val (.int p2), .val (.int p3), .val (.int rs), .val (.int i)] [])) (fun t k => ?_) ?_
        · show Steps p.tables e below (T1.setTop (mkF m 11 #[.val (.ref a1), .val (.int p1), .val (.int p2), .val (.int p3), .val (.int rs), .val (.int i)] [(.int p1), (.int i)])) _
          refine XS.icmpNo X1.here hx rfl (hb hby d1_11) rfl (XT.ii_lt_f c11_5) ?_
          exact k
        have hsg : ¬ i.toInt < p1.toInt := by rw [Int32.lt_iff_toInt_lt] at c11_5; exact c11_5
        refine OwnWp.step (U' := T1.setTop (mkF m 26 #[.val (.ref a1), .val (.int p1), .val (.int p2), .val (.int p3), .val (.int rs), .val (.int i)] [(.int ((48 : Int32) + (rs % (10 : Int32))).toUInt32.toUInt16.toUInt32.toInt32), (.int i), (.ref a1)])) (fun t k => ?_) ?_
        · show Steps p.tables e below (T1.setTop (mkF m 14 #[.val (.ref a1), .val (.int p1), .val (.int p2), .val (.int p3), .val (.int rs), .val (.int i)] [])) _
          refine XS.aloadN X1.here hx rfl (hb hby d1_14) rfl rfl ?_
          show Steps p.tables e below (T1.setTop (mkF m 15 #[.val (.ref a1), .val (.int p1), .val (.int p2), .val (.int p3), .val (.int rs), .val (.int i)] [(.ref a1)])) _
          refine XS.iload X1.here hx rfl (hb hby d1_15) rfl ?_
          show Steps p.tables e below (T1.setTop (mkF m 17 #[.val (.ref a1), .val (.int p1), .val (.int p2), .val (.int p3), .val (.int rs), .val (.int i)] [(.int i), (.ref a1)])) _
          refine XT.bipushV X1.here hx rfl (48 : Int32) (hb hby d1_17) rfl ?_
          show Steps p.tables e below (T1.setTop (mkF m 19 #[.val (.ref a1), .val (.int p1), .val (.int p2), .val (.int p3), .val (.int rs), .val (.int i)] [(.int (48 : Int32)), (.int i), (.ref a1)])) _
          refine XS.iload X1.here hx rfl (hb hby d1_19) rfl ?_
          show Steps p.tables e below (T1.setTop (mkF m 21 #[.val (.ref a1), .val (.int p1), .val (.int p2), .val (.int p3), .val (.int rs), .val (.int i)] [(.int rs), (.int (48 : Int32)), (.int i), (.ref a1)])) _
          refine XT.bipushV X1.here hx rfl (10 : Int32) (hb hby d1_21) rfl ?_
          show Steps p.tables e below (T1.setTop (mkF m 23 #[.val (.ref a1), .val (.int p1), .val (.int p2), .val (.int p3), .val (.int rs), .val (.int i)] [(.int (10 : Int32)), (.int rs), (.int (48 : Int32)), (.int i), (.ref a1)])) _
          refine iremM X1 hx rfl (hb hby d1_23) rfl (by decide) ?_
          show Steps p.tables e below (T1.setTop (mkF m 24 #[.val (.ref a1), .val (.int p1), .val (.int p2), .val (.int p3), .val (.int rs), .val (.int i)] [(.int (rs % (10 : Int32))), (.int (48 : Int32)), (.int i), (.ref a1)])) _
          refine XS.iadd X1.here hx rfl (hb hby d1_24) rfl ?_
          show Steps p.tables e below (T1.setTop (mkF m 25 #[.val (.ref a1), .val (.int p1), .val (.int p2), .val (.int p3), .val (.int rs), .val (.int i)] [(.int ((48 : Int32) + (rs % (10 : Int32)))), (.int i), (.ref a1)])) _
          refine XT.i2c X1.here hx rfl (hb hby d1_25) rfl ?_
          show Steps p.tables e below (T1.setTop (mkF m 26 #[.val (.ref a1), .val (.int p1), .val (.int p2), .val (.int p3), .val (.int rs), .val (.int i)] [(.int ((48 : Int32) + (rs % (10 : Int32))).toUInt32.toUInt16.toUInt32.toInt32), (.int i), (.ref a1)])) _
          exact k
        obtain ⟨T6, h6, L6, X6, e6, N6, K6, F6, st6⟩ := OwnA.stC X1 hx hZ e1 N1 g0 f2 (by omega) (by rw [show (14 : Int32).toInt = 14 from rfl]; omega) (g := (mkF m 26 #[.val (.ref a1), .val (.int p1), .val (.int p2), .val (.int p3), .val (.int rs), .val (.int i)] [(.int ((48 : Int32) + (rs % (10 : Int32))).toUInt32.toUInt16.toUInt32.toInt32), (.int i), (.ref a1)])) rfl rfl (hb hby d1_26)
        refine OwnWp.step st6 ?_
        have Z6 : n0 ≤ h6.size := Nat.le_trans Z1 K6.1
        have F7 : OwnA Z h6 a1 .char (14 : Int32) (fun zi => .int ((ownUpd g i.toInt (nar .char ((48 : Int32) + (rs % (10 : Int32))).toUInt32.toUInt16.toUInt32.toInt32)) zi)) := F6.congr (fun zi _ _ => by exact ownUpd_int g _ _ zi)
        have K8 := Keep.trans K3 K6 (allS (Or.inl (List.mem_of_getElem? (i := 0) rfl)) all0)
        show OwnWp p e below s _ _ _ (T6.setTop (mkF m 27 #[.val (.ref a1), .val (.int p1), .val (.int p2), .val (.int p3), .val (.int rs), .val (.int i)] []))
        obtain ⟨w2, qw2⟩ : ∃ z : Int32, z = (rs / (10 : Int32)) := ⟨_, rfl⟩
        refine OwnWp.step (U' := T6.setTop (mkF m 34 #[.val (.ref a1), .val (.int p1), .val (.int p2), .val (.int p3), .val (.int w2), .val (.int i)] [])) (fun t k => ?_) ?_
        · show Steps p.tables e below (T6.setTop (mkF m 27 #[.val (.ref a1), .val (.int p1), .val (.int p2), .val (.int p3), .val (.int rs), .val (.int i)] [])) _
          refine XS.iload X6.here hx rfl (hb hby d1_27) rfl ?_
          show Steps p.tables e below (T6.setTop (mkF m 29 #[.val (.ref a1), .val (.int p1), .val (.int p2), .val (.int p3), .val (.int rs), .val (.int i)] [(.int rs)])) _
          refine XT.bipushV X6.here hx rfl (10 : Int32) (hb hby d1_29) rfl ?_
          show Steps p.tables e below (T6.setTop (mkF m 31 #[.val (.ref a1), .val (.int p1), .val (.int p2), .val (.int p3), .val (.int rs), .val (.int i)] [(.int (10 : Int32)), (.int rs)])) _
          refine XS.idiv X6.here hx rfl (hb hby d1_31) rfl (by decide) ?_
          show Steps p.tables e below (T6.setTop (mkF m 32 #[.val (.ref a1), .val (.int p1), .val (.int p2), .val (.int p3), .val (.int rs), .val (.int i)] [(.int (rs / (10 : Int32)))])) _
          refine XS.istore X6.here hx rfl (hb hby d1_32) rfl (l' := #[.val (.ref a1), .val (.int p1), .val (.int p2), .val (.int p3), .val (.int (rs / (10 : Int32))), .val (.int i)]) rfl ?_
          show Steps p.tables e below (T6.setTop (mkF m 34 #[.val (.ref a1), .val (.int p1), .val (.int p2), .val (.int p3), .val (.int (rs / (10 : Int32))), .val (.int i)] [])) _
          rw [qw2] at k
          exact k
        obtain ⟨w3, qw3⟩ : ∃ z : Int32, z = (i + ((-1) : Int32)) := ⟨_, rfl⟩
        refine OwnWp.step (U' := T6.setTop (mkF m 37 #[.val (.ref a1), .val (.int p1), .val (.int p2), .val (.int p3), .val (.int w2), .val (.int w3)] [])) (fun t k => ?_) ?_
        · show Steps p.tables e below (T6.setTop (mkF m 34 #[.val (.ref a1), .val (.int p1), .val (.int p2), .val (.int p3), .val (.int w2), .val (.int i)] [])) _
          refine XT.iincV X6.here hx rfl ((-1) : Int32) (hb hby d1_34) rfl rfl (l' := #[.val (.ref a1), .val (.int p1), .val (.int p2), .val (.int p3), .val (.int w2), .val (.int (i + ((-1) : Int32)))]) rfl ?_
          show Steps p.tables e below (T6.setTop (mkF m 37 #[.val (.ref a1), .val (.int p1), .val (.int p2), .val (.int p3), .val (.int w2), .val (.int (i + ((-1) : Int32)))] [])) _
          rw [qw3] at k
          exact k
        refine OwnWp.step (U' := T6.setTop (mkF m 8 #[.val (.ref a1), .val (.int p1), .val (.int p2), .val (.int p3), .val (.int w2), .val (.int w3)] [])) (fun t k => ?_) ?_
        · show Steps p.tables e below (T6.setTop (mkF m 37 #[.val (.ref a1), .val (.int p1), .val (.int p2), .val (.int p3), .val (.int w2), .val (.int w3)] [])) _
          refine XS.goto X6.here hx rfl (pc0 := 37) (pc' := 8) rfl (hb hby d1_37) (by decide) (by decide) ?_
          show Steps p.tables e below (T6.setTop (mkF m 8 #[.val (.ref a1), .val (.int p1), .val (.int p2), .val (.int p3), .val (.int w2), .val (.int w3)] [])) _
          exact k
        obtain ⟨t1, t2, t3, t4⟩ := own_turn p1 p2 p3 hv hbg k i rs f g w3 w2 hi hk hr hf qw3 qw2
        exact ih  T6 h6 _ w3 w2 (ownUpd g i.toInt (nar .char ((48 : Int32) + (rs % (10 : Int32))).toUInt32.toUInt16.toUInt32.toInt32)) X6 e6 N6 Z6 F7 K8 t1 t2 t3 t4
  exact hloop (p2.toInt - p1.toInt).toNat s₁ h0 _ w1 p3 f X0 e0 N0 Z0 A0 K0 (own_i0 p1 p2 w1 qw1 hbg hbe he) (by omega) (by rw [show (p2.toInt - p1.toInt - ((p2.toInt - p1.toInt).toNat : Int)).toNat = 0 from by omega, Int.pow_zero, Int.ediv_one]) (fun j => own_at0 f p2 p3 _ j (own_i0e p2 w1 qw1 hbe hbg he))
theorem d2_0 : decode method_3_code 0 = .ok (.iload_n 1, 1) := by decide +kernel
theorem d2_1 : decode method_3_code 1 = .ok (.iload_n 2, 1) := by decide +kernel
theorem d2_2 : decode method_3_code 2 = .ok (.if_icmp .lt 8, 3) := by decide +kernel
theorem d2_5 : decode method_3_code 5 = .ok (.iload_n 1, 1) := by decide +kernel
theorem d2_6 : decode method_3_code 6 = .ok (.iload_n 3, 1) := by decide +kernel
theorem d2_7 : decode method_3_code 7 = .ok (.if_icmp .lt 17, 3) := by decide +kernel
theorem d2_10 : decode method_3_code 10 = .ok (.aload_n 0, 1) := by decide +kernel
theorem d2_11 : decode method_3_code 11 = .ok (.iload_n 1, 1) := by decide +kernel
theorem d2_12 : decode method_3_code 12 = .ok (.caload, 1) := by decide +kernel
theorem d2_13 : decode method_3_code 13 = .ok (.iload 5, 2) := by decide +kernel
theorem d2_15 : decode method_3_code 15 = .ok (.if_icmp .ne 7, 3) := by decide +kernel
theorem d2_18 : decode method_3_code 18 = .ok (.iconst 1, 1) := by decide +kernel
theorem d2_19 : decode method_3_code 19 = .ok (.goto 4, 3) := by decide +kernel
theorem d2_22 : decode method_3_code 22 = .ok (.iconst 0, 1) := by decide +kernel
theorem d2_23 : decode method_3_code 23 = .ok (.ireturn, 1) := by decide +kernel
theorem d2_24 : decode method_3_code 24 = .ok (.iload_n 3, 1) := by decide +kernel
theorem d2_25 : decode method_3_code 25 = .ok (.iconst 1, 1) := by decide +kernel
theorem d2_26 : decode method_3_code 26 = .ok (.isub, 1) := by decide +kernel
theorem d2_27 : decode method_3_code 27 = .ok (.iload_n 1, 1) := by decide +kernel
theorem d2_28 : decode method_3_code 28 = .ok (.isub, 1) := by decide +kernel
theorem d2_29 : decode method_3_code 29 = .ok (.istore 7, 2) := by decide +kernel
theorem d2_31 : decode method_3_code 31 = .ok (.iload 4, 2) := by decide +kernel
theorem d2_33 : decode method_3_code 33 = .ok (.i2l, 1) := by decide +kernel
theorem d2_34 : decode method_3_code 34 = .ok (.aload 6, 2) := by decide +kernel
theorem d2_36 : decode method_3_code 36 = .ok (.iload 7, 2) := by decide +kernel
theorem d2_38 : decode method_3_code 38 = .ok (.laload, 1) := by decide +kernel
theorem d2_39 : decode method_3_code 39 = .ok (.ldiv, 1) := by decide +kernel
theorem d2_40 : decode method_3_code 40 = .ok (.ldc2_w 9, 3) := by decide +kernel
theorem d2_43 : decode method_3_code 43 = .ok (.lrem, 1) := by decide +kernel
theorem d2_44 : decode method_3_code 44 = .ok (.l2i, 1) := by decide +kernel
theorem d2_45 : decode method_3_code 45 = .ok (.istore 8, 2) := by decide +kernel
theorem d2_47 : decode method_3_code 47 = .ok (.aload_n 0, 1) := by decide +kernel
theorem d2_48 : decode method_3_code 48 = .ok (.iload_n 1, 1) := by decide +kernel
theorem d2_49 : decode method_3_code 49 = .ok (.caload, 1) := by decide +kernel
theorem d2_50 : decode method_3_code 50 = .ok (.bipush 48, 2) := by decide +kernel
theorem d2_52 : decode method_3_code 52 = .ok (.iload 8, 2) := by decide +kernel
theorem d2_54 : decode method_3_code 54 = .ok (.iadd, 1) := by decide +kernel
theorem d2_55 : decode method_3_code 55 = .ok (.i2c, 1) := by decide +kernel
theorem d2_56 : decode method_3_code 56 = .ok (.if_icmp .ne 7, 3) := by decide +kernel
theorem d2_59 : decode method_3_code 59 = .ok (.iconst 1, 1) := by decide +kernel
theorem d2_60 : decode method_3_code 60 = .ok (.goto 4, 3) := by decide +kernel
theorem d2_63 : decode method_3_code 63 = .ok (.iconst 0, 1) := by decide +kernel
theorem d2_64 : decode method_3_code 64 = .ok (.ireturn, 1) := by decide +kernel
theorem pn_2 : plainFor (⟨"com/example/kalend/kalend/util/DigitsWritePinLaw", "ok", "([CIIIIC[J)Z"⟩ : MethodName) = true := plainFor_of_name (by first | (simp [plainName, overriddenIn]; done) | decide +kernel)
theorem pd_2 : parseMethodDescriptor "([CIIIIC[J)Z" = some ⟨[(.array .char), .int, .int, .int, .int, .char, (.array .long)], some .boolean⟩ := by decide +kernel
theorem ef_2 (m : MethodId) (x0 : Addr) (x1 : Int32) (x2 : Int32) (x3 : Int32) (x4 : Int32) (x5 : Int32) (x6 : Addr) : entryFrame m #[(.ref x0), (.int x1), (.int x2), (.int x3), (.int x4), (.int x5), (.ref x6)] 9 = mkF m 0 #[.val (.ref x0), .val (.int x1), .val (.int x2), .val (.int x3), .val (.int x4), .val (.int x5), .val (.ref x6), .unset, .unset] [] := by first | (simp [entryFrame, mkF, argsToLocals, Value.category, maxLocals]; done) | rfl
def Q2 (Z : State) (a1 : Addr) (p1 : Int32) (p2 : Int32) (p3 : Int32) (p4 : Int32) (p5 : Int32) (a2 : Addr) (g : Int → Int32) (h0 : Heap) (n0 : Nat) (v : Option Value) (h : Heap) (L : List Loc) : Prop := v = some (.int 1) ∧ Fr n0 L ∧ h = h0
set_option maxRecDepth 65536 in
set_option maxHeartbeats 40000000 in
theorem rm2 (l : Launch) (Z : State) (a0 : Array Value) (hw : ∀ d ∈ tables_1, d.before a0 Z = true) (ws : List Jvm.Cond) (a1 : Addr) (p1 : Int32) (p2 : Int32) (p3 : Int32) (p4 : Int32) (p5 : Int32) (a2 : Addr) (g : Int → Int32) (h0 : Heap) (n0 : Nat) (Z0 : n0 ≤ h0.size) (A0 : OwnA Z h0 a1 .char (14 : Int32) (fun i => .int (g i))) (A1 : OwnA Z h0 a2 .long (12 : Int32) (fun i => .long (own_p i))) (h1 : 0 ≤ p1.toInt ∧ p1.toInt < 14) (hv : 0 ≤ p4.toInt) (hbg : 0 ≤ p2.toInt ∧ p2.toInt ≤ p3.toInt ∧ p3.toInt ≤ 14 ∧ p3.toInt - p2.toInt ≤ 11) (hA : p1.toInt < p2.toInt ∨ p3.toInt ≤ p1.toInt → g p1.toInt = p5) (hB : p2.toInt ≤ p1.toInt → p1.toInt < p3.toInt → (g p1.toInt).toInt = 48 + (p4.toInt / 10 ^ (p3.toInt - 1 - p1.toInt).toNat) % 10) :
    MetFree l (⟨"com/example/kalend/kalend/util/DigitsWritePinLaw", "ok", "([CIIIIC[J)Z"⟩ : MethodName) (head1 (Jvm.Cond.code (⟨"com/example/kalend/kalend/util/DigitsWritePinLaw", "ok", "([CIIIIC[J)Z"⟩ : MethodName) method_3_code 9 (some .boolean) :: ws) ({ frames := 0, cells := 0, slots := 0, locals := 0 } : Room)) (fun a U => a = #[(.ref a1), (.int p1), (.int p2), (.int p3), (.int p4), (.int p5), (.ref a2)] ∧ Z.Warmed39 U.vm ∧ U.heap = h0) (fun _ _ _ _ _ => True) (fun _ U oc U' => ∃ v L, oc = .returned v ∧ Q2 Z a1 p1 p2 p3 p4 p5 a2 g h0 n0 v U'.heap L ∧ FrameEnd U oc U' L ({ frames := 0, cells := 0, slots := 0, locals := 0 } : Room).cells ({ frames := 0, cells := 0, slots := 0, locals := 0 } : Room).slots) := by
  refine MetFree.of_bodySF pn_2 hisR ?_
  intro p e s m args below meth c s₁ Bd hml0 hP hK
  obtain ⟨rfl, hZ, hh⟩ := hP
  have hx := Bd.exec
  have hby := Bd.bytes
  have hlk := BodyLoose.notSynchronized Bd
  have hml : c.maxLocals = 9 := hml0
  have hown : s.vm.findClass "com/example/kalend/kalend/util/DigitsWritePinLaw" = some m.cls := findClass_of_methodNamed Bd.named
  have hnm := (name_of_methodNamed Bd.named Bd.method).1
  have X0 : Stand p l e ({ frames := 0, cells := 0, slots := 0, locals := 0 } : Room) s m #[(.ref a1), (.int p1), (.int p2), (.int p3), (.int p4), (.int p5), (.ref a2)] below meth c s₁ [] 0 0 := Stand.of_body Bd
  have e0 : s₁.heap = h0 := by rw [← hh, Bd.state]; rfl
  have N0 := Fr.nil n0
  show OwnWp p e below s ({ frames := 0, cells := 0, slots := 0, locals := 0 } : Room).cells ({ frames := 0, cells := 0, slots := 0, locals := 0 } : Room).slots (Q2 Z a1 p1 p2 p3 p4 p5 a2 g h0 n0) (s₁.setTop (entryFrame m #[(.ref a1), (.int p1), (.int p2), (.int p3), (.int p4), (.int p5), (.ref a2)] 9))
  refine OwnWp.cast (ef_2 m a1 p1 p2 p3 p4 p5 a2) ?_
  show OwnWp p e below s _ _ _ (s₁.setTop (mkF m 0 #[.val (.ref a1), .val (.int p1), .val (.int p2), .val (.int p3), .val (.int p4), .val (.int p5), .val (.ref a2), .unset, .unset] []))
  refine OwnWp.step (U' := s₁.setTop (mkF m 2 #[.val (.ref a1), .val (.int p1), .val (.int p2), .val (.int p3), .val (.int p4), .val (.int p5), .val (.ref a2), .unset, .unset] [(.int p2), (.int p1)])) (fun t k => ?_) ?_
  · show Steps p.tables e below (s₁.setTop (mkF m 0 #[.val (.ref a1), .val (.int p1), .val (.int p2), .val (.int p3), .val (.int p4), .val (.int p5), .val (.ref a2), .unset, .unset] [])) _
    refine XS.iloadN X0.here hx rfl (hb hby d2_0) rfl ?_
    show Steps p.tables e below (s₁.setTop (mkF m 1 #[.val (.ref a1), .val (.int p1), .val (.int p2), .val (.int p3), .val (.int p4), .val (.int p5), .val (.ref a2), .unset, .unset] [(.int p1)])) _
    refine XS.iloadN X0.here hx rfl (hb hby d2_1) rfl ?_
    show Steps p.tables e below (s₁.setTop (mkF m 2 #[.val (.ref a1), .val (.int p1), .val (.int p2), .val (.int p3), .val (.int p4), .val (.int p5), .val (.ref a2), .unset, .unset] [(.int p2), (.int p1)])) _
    exact k
  by_cases c2_9 : p1 < p2
  · refine OwnWp.step (U' := s₁.setTop (mkF m 10 #[.val (.ref a1), .val (.int p1), .val (.int p2), .val (.int p3), .val (.int p4), .val (.int p5), .val (.ref a2), .unset, .unset] [])) (fun t k => ?_) ?_
    · show Steps p.tables e below (s₁.setTop (mkF m 2 #[.val (.ref a1), .val (.int p1), .val (.int p2), .val (.int p3), .val (.int p4), .val (.int p5), .val (.ref a2), .unset, .unset] [(.int p2), (.int p1)])) _
      refine XS.icmpYes X0.here hx rfl (pc0 := 2) (pc' := 10) rfl (hb hby d2_2) rfl (XT.ii_lt_t c2_9) (by decide) (by decide) ?_
      exact k
    have hq : (g p1.toInt) = p5 := hA (Or.inl (Int32.lt_iff_toInt_lt.mp c2_9))
    refine OwnWp.step (U' := s₁.setTop (mkF m 23 #[.val (.ref a1), .val (.int p1), .val (.int p2), .val (.int p3), .val (.int p4), .val (.int p5), .val (.ref a2), .unset, .unset] [(.int (1 : Int32))])) (fun t k => ?_) ?_
    · show Steps p.tables e below (s₁.setTop (mkF m 10 #[.val (.ref a1), .val (.int p1), .val (.int p2), .val (.int p3), .val (.int p4), .val (.int p5), .val (.ref a2), .unset, .unset] [])) _
      refine XS.aloadN X0.here hx rfl (hb hby d2_10) rfl rfl ?_
      show Steps p.tables e below (s₁.setTop (mkF m 11 #[.val (.ref a1), .val (.int p1), .val (.int p2), .val (.int p3), .val (.int p4), .val (.int p5), .val (.ref a2), .unset, .unset] [(.ref a1)])) _
      refine XS.iloadN X0.here hx rfl (hb hby d2_11) rfl ?_
      show Steps p.tables e below (s₁.setTop (mkF m 12 #[.val (.ref a1), .val (.int p1), .val (.int p2), .val (.int p3), .val (.int p4), .val (.int p5), .val (.ref a2), .unset, .unset] [(.int p1), (.ref a1)])) _
      refine OwnA.ldC X0 hx hZ e0 A0 h1.1 (by rw [show (14 : Int32).toInt = 14 from rfl]; exact h1.2) rfl rfl (hb hby d2_12) ?_
      show Steps p.tables e below (s₁.setTop (mkF m 13 #[.val (.ref a1), .val (.int p1), .val (.int p2), .val (.int p3), .val (.int p4), .val (.int p5), .val (.ref a2), .unset, .unset] [(.int (g p1.toInt))])) _
      refine XS.iload X0.here hx rfl (hb hby d2_13) rfl ?_
      show Steps p.tables e below (s₁.setTop (mkF m 15 #[.val (.ref a1), .val (.int p1), .val (.int p2), .val (.int p3), .val (.int p4), .val (.int p5), .val (.ref a2), .unset, .unset] [(.int p5), (.int (g p1.toInt))])) _
      refine XS.icmpNo X0.here hx rfl (hb hby d2_15) rfl (XT.ii_ne_f hq) ?_
      show Steps p.tables e below (s₁.setTop (mkF m 18 #[.val (.ref a1), .val (.int p1), .val (.int p2), .val (.int p3), .val (.int p4), .val (.int p5), .val (.ref a2), .unset, .unset] [])) _
      refine XT.iconstV X0.here hx rfl (1 : Int32) (hb hby d2_18) rfl ?_
      show Steps p.tables e below (s₁.setTop (mkF m 19 #[.val (.ref a1), .val (.int p1), .val (.int p2), .val (.int p3), .val (.int p4), .val (.int p5), .val (.ref a2), .unset, .unset] [(.int (1 : Int32))])) _
      refine XS.goto X0.here hx rfl (pc0 := 19) (pc' := 23) rfl (hb hby d2_19) (by decide) (by decide) ?_
      show Steps p.tables e below (s₁.setTop (mkF m 23 #[.val (.ref a1), .val (.int p1), .val (.int p2), .val (.int p3), .val (.int p4), .val (.int p5), .val (.ref a2), .unset, .unset] [(.int (1 : Int32))])) _
      exact k
    refine OwnWp.retZ X0 hx hlk Bd.returns (hb hby d2_23) (by decide) (by decide) (by decide) ?_
    exact ⟨rfl, N0, e0⟩
  · refine OwnWp.step (U' := s₁.setTop (mkF m 5 #[.val (.ref a1), .val (.int p1), .val (.int p2), .val (.int p3), .val (.int p4), .val (.int p5), .val (.ref a2), .unset, .unset] [])) (fun t k => ?_) ?_
    · show Steps p.tables e below (s₁.setTop (mkF m 2 #[.val (.ref a1), .val (.int p1), .val (.int p2), .val (.int p3), .val (.int p4), .val (.int p5), .val (.ref a2), .unset, .unset] [(.int p2), (.int p1)])) _
      refine XS.icmpNo X0.here hx rfl (hb hby d2_2) rfl (XT.ii_lt_f c2_9) ?_
      exact k
    refine OwnWp.step (U' := s₁.setTop (mkF m 7 #[.val (.ref a1), .val (.int p1), .val (.int p2), .val (.int p3), .val (.int p4), .val (.int p5), .val (.ref a2), .unset, .unset] [(.int p3), (.int p1)])) (fun t k => ?_) ?_
    · show Steps p.tables e below (s₁.setTop (mkF m 5 #[.val (.ref a1), .val (.int p1), .val (.int p2), .val (.int p3), .val (.int p4), .val (.int p5), .val (.ref a2), .unset, .unset] [])) _
      refine XS.iloadN X0.here hx rfl (hb hby d2_5) rfl ?_
      show Steps p.tables e below (s₁.setTop (mkF m 6 #[.val (.ref a1), .val (.int p1), .val (.int p2), .val (.int p3), .val (.int p4), .val (.int p5), .val (.ref a2), .unset, .unset] [(.int p1)])) _
      refine XS.iloadN X0.here hx rfl (hb hby d2_6) rfl ?_
      show Steps p.tables e below (s₁.setTop (mkF m 7 #[.val (.ref a1), .val (.int p1), .val (.int p2), .val (.int p3), .val (.int p4), .val (.int p5), .val (.ref a2), .unset, .unset] [(.int p3), (.int p1)])) _
      exact k
    by_cases c7_10 : p1 < p3
    · refine OwnWp.step (U' := s₁.setTop (mkF m 24 #[.val (.ref a1), .val (.int p1), .val (.int p2), .val (.int p3), .val (.int p4), .val (.int p5), .val (.ref a2), .unset, .unset] [])) (fun t k => ?_) ?_
      · show Steps p.tables e below (s₁.setTop (mkF m 7 #[.val (.ref a1), .val (.int p1), .val (.int p2), .val (.int p3), .val (.int p4), .val (.int p5), .val (.ref a2), .unset, .unset] [(.int p3), (.int p1)])) _
        refine XS.icmpYes X0.here hx rfl (pc0 := 7) (pc' := 24) rfl (hb hby d2_7) rfl (XT.ii_lt_t c7_10) (by decide) (by decide) ?_
        exact k
      have hc1 : ¬ p1.toInt < p2.toInt := by rw [Int32.lt_iff_toInt_lt] at c2_9; exact c2_9
      have hc2 : p1.toInt < p3.toInt := by rw [Int32.lt_iff_toInt_lt] at c7_10; exact c7_10
      obtain ⟨w1, qw1⟩ : ∃ z : Int32, z = ((p3 - (1 : Int32)) - p1) := ⟨_, rfl⟩
      refine OwnWp.step (U' := s₁.setTop (mkF m 31 #[.val (.ref a1), .val (.int p1), .val (.int p2), .val (.int p3), .val (.int p4), .val (.int p5), .val (.ref a2), .val (.int w1), .unset] [])) (fun t k => ?_) ?_
      · show Steps p.tables e below (s₁.setTop (mkF m 24 #[.val (.ref a1), .val (.int p1), .val (.int p2), .val (.int p3), .val (.int p4), .val (.int p5), .val (.ref a2), .unset, .unset] [])) _
        refine XS.iloadN X0.here hx rfl (hb hby d2_24) rfl ?_
        show Steps p.tables e below (s₁.setTop (mkF m 25 #[.val (.ref a1), .val (.int p1), .val (.int p2), .val (.int p3), .val (.int p4), .val (.int p5), .val (.ref a2), .unset, .unset] [(.int p3)])) _
        refine XT.iconstV X0.here hx rfl (1 : Int32) (hb hby d2_25) rfl ?_
        show Steps p.tables e below (s₁.setTop (mkF m 26 #[.val (.ref a1), .val (.int p1), .val (.int p2), .val (.int p3), .val (.int p4), .val (.int p5), .val (.ref a2), .unset, .unset] [(.int (1 : Int32)), (.int p3)])) _
        refine XS.isub X0.here hx rfl (hb hby d2_26) rfl ?_
        show Steps p.tables e below (s₁.setTop (mkF m 27 #[.val (.ref a1), .val (.int p1), .val (.int p2), .val (.int p3), .val (.int p4), .val (.int p5), .val (.ref a2), .unset, .unset] [(.int (p3 - (1 : Int32)))])) _
        refine XS.iloadN X0.here hx rfl (hb hby d2_27) rfl ?_
        show Steps p.tables e below (s₁.setTop (mkF m 28 #[.val (.ref a1), .val (.int p1), .val (.int p2), .val (.int p3), .val (.int p4), .val (.int p5), .val (.ref a2), .unset, .unset] [(.int p1), (.int (p3 - (1 : Int32)))])) _
        refine XS.isub X0.here hx rfl (hb hby d2_28) rfl ?_
        show Steps p.tables e below (s₁.setTop (mkF m 29 #[.val (.ref a1), .val (.int p1), .val (.int p2), .val (.int p3), .val (.int p4), .val (.int p5), .val (.ref a2), .unset, .unset] [(.int ((p3 - (1 : Int32)) - p1))])) _
        refine XS.istore X0.here hx rfl (hb hby d2_29) rfl (l' := #[.val (.ref a1), .val (.int p1), .val (.int p2), .val (.int p3), .val (.int p4), .val (.int p5), .val (.ref a2), .val (.int ((p3 - (1 : Int32)) - p1)), .unset]) rfl ?_
        show Steps p.tables e below (s₁.setTop (mkF m 31 #[.val (.ref a1), .val (.int p1), .val (.int p2), .val (.int p3), .val (.int p4), .val (.int p5), .val (.ref a2), .val (.int ((p3 - (1 : Int32)) - p1)), .unset] [])) _
        rw [qw1] at k
        exact k
      obtain ⟨w2, qw2⟩ : ∃ z : Int32, z = ((p4.toInt64 / (own_p w1.toInt)) % (10 : Int64)).toInt32 := ⟨_, rfl⟩
      refine OwnWp.step (U' := s₁.setTop (mkF m 47 #[.val (.ref a1), .val (.int p1), .val (.int p2), .val (.int p3), .val (.int p4), .val (.int p5), .val (.ref a2), .val (.int w1), .val (.int w2)] [])) (fun t k => ?_) ?_
      · show Steps p.tables e below (s₁.setTop (mkF m 31 #[.val (.ref a1), .val (.int p1), .val (.int p2), .val (.int p3), .val (.int p4), .val (.int p5), .val (.ref a2), .val (.int w1), .unset] [])) _
        refine XS.iload X0.here hx rfl (hb hby d2_31) rfl ?_
        show Steps p.tables e below (s₁.setTop (mkF m 33 #[.val (.ref a1), .val (.int p1), .val (.int p2), .val (.int p3), .val (.int p4), .val (.int p5), .val (.ref a2), .val (.int w1), .unset] [(.int p4)])) _
        refine XT.i2l X0.here hx rfl (hb hby d2_33) rfl ?_
        show Steps p.tables e below (s₁.setTop (mkF m 34 #[.val (.ref a1), .val (.int p1), .val (.int p2), .val (.int p3), .val (.int p4), .val (.int p5), .val (.ref a2), .val (.int w1), .unset] [(.long p4.toInt64)])) _
        refine XS.aload X0.here hx rfl (hb hby d2_34) rfl rfl ?_
        show Steps p.tables e below (s₁.setTop (mkF m 36 #[.val (.ref a1), .val (.int p1), .val (.int p2), .val (.int p3), .val (.int p4), .val (.int p5), .val (.ref a2), .val (.int w1), .unset] [(.ref a2), (.long p4.toInt64)])) _
        refine XS.iload X0.here hx rfl (hb hby d2_36) rfl ?_
        show Steps p.tables e below (s₁.setTop (mkF m 38 #[.val (.ref a1), .val (.int p1), .val (.int p2), .val (.int p3), .val (.int p4), .val (.int p5), .val (.ref a2), .val (.int w1), .unset] [(.int w1), (.ref a2), (.long p4.toInt64)])) _
        refine OwnA.ldJ X0 hx hZ e0 A1 (own_k p1 p2 p3 h1 hbg hc1 hc2 w1 qw1).1 (own_k p1 p2 p3 h1 hbg hc1 hc2 w1 qw1).2.1 rfl rfl (hb hby d2_38) ?_
        show Steps p.tables e below (s₁.setTop (mkF m 39 #[.val (.ref a1), .val (.int p1), .val (.int p2), .val (.int p3), .val (.int p4), .val (.int p5), .val (.ref a2), .val (.int w1), .unset] [(.long (own_p w1.toInt)), (.long p4.toInt64)])) _
        refine XT.ldiv X0.here hx rfl (hb hby d2_39) rfl (own_pne _ (own_k p1 p2 p3 h1 hbg hc1 hc2 w1 qw1).1 (own_k p1 p2 p3 h1 hbg hc1 hc2 w1 qw1).2.1) ?_
        show Steps p.tables e below (s₁.setTop (mkF m 40 #[.val (.ref a1), .val (.int p1), .val (.int p2), .val (.int p3), .val (.int p4), .val (.int p5), .val (.ref a2), .val (.int w1), .unset] [(.long (p4.toInt64 / (own_p w1.toInt)))])) _
        refine X0.ldc2J hx hown (mvT hZ (hw _ (List.mem_of_getElem? (i := 4) rfl))) rfl (hb hby d2_40) ?_
        show Steps p.tables e below (s₁.setTop (mkF m 43 #[.val (.ref a1), .val (.int p1), .val (.int p2), .val (.int p3), .val (.int p4), .val (.int p5), .val (.ref a2), .val (.int w1), .unset] [(.long (10 : Int64)), (.long (p4.toInt64 / (own_p w1.toInt)))])) _
        refine own_lrem X0 hx rfl (hb hby d2_43) rfl (by decide) ?_
        show Steps p.tables e below (s₁.setTop (mkF m 44 #[.val (.ref a1), .val (.int p1), .val (.int p2), .val (.int p3), .val (.int p4), .val (.int p5), .val (.ref a2), .val (.int w1), .unset] [(.long ((p4.toInt64 / (own_p w1.toInt)) % (10 : Int64)))])) _
        refine XT.l2i X0.here hx rfl (hb hby d2_44) rfl ?_
        show Steps p.tables e below (s₁.setTop (mkF m 45 #[.val (.ref a1), .val (.int p1), .val (.int p2), .val (.int p3), .val (.int p4), .val (.int p5), .val (.ref a2), .val (.int w1), .unset] [(.int ((p4.toInt64 / (own_p w1.toInt)) % (10 : Int64)).toInt32)])) _
        refine XS.istore X0.here hx rfl (hb hby d2_45) rfl (l' := #[.val (.ref a1), .val (.int p1), .val (.int p2), .val (.int p3), .val (.int p4), .val (.int p5), .val (.ref a2), .val (.int w1), .val (.int ((p4.toInt64 / (own_p w1.toInt)) % (10 : Int64)).toInt32)]) rfl ?_
        show Steps p.tables e below (s₁.setTop (mkF m 47 #[.val (.ref a1), .val (.int p1), .val (.int p2), .val (.int p3), .val (.int p4), .val (.int p5), .val (.ref a2), .val (.int w1), .val (.int ((p4.toInt64 / (own_p w1.toInt)) % (10 : Int64)).toInt32)] [])) _
        rw [qw2] at k
        exact k
      refine OwnWp.step (U' := s₁.setTop (mkF m 56 #[.val (.ref a1), .val (.int p1), .val (.int p2), .val (.int p3), .val (.int p4), .val (.int p5), .val (.ref a2), .val (.int w1), .val (.int w2)] [(.int ((48 : Int32) + w2).toUInt32.toUInt16.toUInt32.toInt32), (.int (g p1.toInt))])) (fun t k => ?_) ?_
      · show Steps p.tables e below (s₁.setTop (mkF m 47 #[.val (.ref a1), .val (.int p1), .val (.int p2), .val (.int p3), .val (.int p4), .val (.int p5), .val (.ref a2), .val (.int w1), .val (.int w2)] [])) _
        refine XS.aloadN X0.here hx rfl (hb hby d2_47) rfl rfl ?_
        show Steps p.tables e below (s₁.setTop (mkF m 48 #[.val (.ref a1), .val (.int p1), .val (.int p2), .val (.int p3), .val (.int p4), .val (.int p5), .val (.ref a2), .val (.int w1), .val (.int w2)] [(.ref a1)])) _
        refine XS.iloadN X0.here hx rfl (hb hby d2_48) rfl ?_
        show Steps p.tables e below (s₁.setTop (mkF m 49 #[.val (.ref a1), .val (.int p1), .val (.int p2), .val (.int p3), .val (.int p4), .val (.int p5), .val (.ref a2), .val (.int w1), .val (.int w2)] [(.int p1), (.ref a1)])) _
        refine OwnA.ldC X0 hx hZ e0 A0 h1.1 (by rw [show (14 : Int32).toInt = 14 from rfl]; exact h1.2) rfl rfl (hb hby d2_49) ?_
        show Steps p.tables e below (s₁.setTop (mkF m 50 #[.val (.ref a1), .val (.int p1), .val (.int p2), .val (.int p3), .val (.int p4), .val (.int p5), .val (.ref a2), .val (.int w1), .val (.int w2)] [(.int (g p1.toInt))])) _
        refine XT.bipushV X0.here hx rfl (48 : Int32) (hb hby d2_50) rfl ?_
        show Steps p.tables e below (s₁.setTop (mkF m 52 #[.val (.ref a1), .val (.int p1), .val (.int p2), .val (.int p3), .val (.int p4), .val (.int p5), .val (.ref a2), .val (.int w1), .val (.int w2)] [(.int (48 : Int32)), (.int (g p1.toInt))])) _
        refine XS.iload X0.here hx rfl (hb hby d2_52) rfl ?_
        show Steps p.tables e below (s₁.setTop (mkF m 54 #[.val (.ref a1), .val (.int p1), .val (.int p2), .val (.int p3), .val (.int p4), .val (.int p5), .val (.ref a2), .val (.int w1), .val (.int w2)] [(.int w2), (.int (48 : Int32)), (.int (g p1.toInt))])) _
        refine XS.iadd X0.here hx rfl (hb hby d2_54) rfl ?_
        show Steps p.tables e below (s₁.setTop (mkF m 55 #[.val (.ref a1), .val (.int p1), .val (.int p2), .val (.int p3), .val (.int p4), .val (.int p5), .val (.ref a2), .val (.int w1), .val (.int w2)] [(.int ((48 : Int32) + w2)), (.int (g p1.toInt))])) _
        refine XT.i2c X0.here hx rfl (hb hby d2_55) rfl ?_
        show Steps p.tables e below (s₁.setTop (mkF m 56 #[.val (.ref a1), .val (.int p1), .val (.int p2), .val (.int p3), .val (.int p4), .val (.int p5), .val (.ref a2), .val (.int w1), .val (.int w2)] [(.int ((48 : Int32) + w2).toUInt32.toUInt16.toUInt32.toInt32), (.int (g p1.toInt))])) _
        exact k
      obtain ⟨w3, qw3⟩ : ∃ z : Int32, z = (if (g p1.toInt) = ((48 : Int32) + w2).toUInt32.toUInt16.toUInt32.toInt32 then (1 : Int32) else (0 : Int32)) := ⟨_, rfl⟩
      refine OwnWp.step (U' := s₁.setTop (mkF m 64 #[.val (.ref a1), .val (.int p1), .val (.int p2), .val (.int p3), .val (.int p4), .val (.int p5), .val (.ref a2), .val (.int w1), .val (.int w2)] [(.int w3)])) (fun t k => ?_) ?_
      · show Steps p.tables e below (s₁.setTop (mkF m 56 #[.val (.ref a1), .val (.int p1), .val (.int p2), .val (.int p3), .val (.int p4), .val (.int p5), .val (.ref a2), .val (.int w1), .val (.int w2)] [(.int ((48 : Int32) + w2).toUInt32.toUInt16.toUInt32.toInt32), (.int (g p1.toInt))])) _
        by_cases c56_11 : (g p1.toInt) = ((48 : Int32) + w2).toUInt32.toUInt16.toUInt32.toInt32
        · refine XS.icmpNo X0.here hx rfl (hb hby d2_56) rfl (XT.ii_ne_f c56_11) ?_
          show Steps p.tables e below (s₁.setTop (mkF m 59 #[.val (.ref a1), .val (.int p1), .val (.int p2), .val (.int p3), .val (.int p4), .val (.int p5), .val (.ref a2), .val (.int w1), .val (.int w2)] [])) _
          refine XT.iconstV X0.here hx rfl (1 : Int32) (hb hby d2_59) rfl ?_
          show Steps p.tables e below (s₁.setTop (mkF m 60 #[.val (.ref a1), .val (.int p1), .val (.int p2), .val (.int p3), .val (.int p4), .val (.int p5), .val (.ref a2), .val (.int w1), .val (.int w2)] [(.int (1 : Int32))])) _
          refine XS.goto X0.here hx rfl (pc0 := 60) (pc' := 64) rfl (hb hby d2_60) (by decide) (by decide) ?_
          show Steps p.tables e below (s₁.setTop (mkF m 64 #[.val (.ref a1), .val (.int p1), .val (.int p2), .val (.int p3), .val (.int p4), .val (.int p5), .val (.ref a2), .val (.int w1), .val (.int w2)] [(.int (1 : Int32))])) _
          rw [show w3 = (1 : Int32) from by rw [qw3, if_pos c56_11]] at k
          exact k
        · refine XS.icmpYes X0.here hx rfl (pc0 := 56) (pc' := 63) rfl (hb hby d2_56) rfl (XT.ii_ne_t c56_11) (by decide) (by decide) ?_
          show Steps p.tables e below (s₁.setTop (mkF m 63 #[.val (.ref a1), .val (.int p1), .val (.int p2), .val (.int p3), .val (.int p4), .val (.int p5), .val (.ref a2), .val (.int w1), .val (.int w2)] [])) _
          refine XT.iconstV X0.here hx rfl (0 : Int32) (hb hby d2_63) rfl ?_
          show Steps p.tables e below (s₁.setTop (mkF m 64 #[.val (.ref a1), .val (.int p1), .val (.int p2), .val (.int p3), .val (.int p4), .val (.int p5), .val (.ref a2), .val (.int w1), .val (.int w2)] [(.int (0 : Int32))])) _
          rw [show w3 = (0 : Int32) from by rw [qw3, if_neg c56_11]] at k
          exact k
      have hq := own_eq g p1 p2 p3 p4 h1 hv hbg hc1 hc2 w1 qw1 w2 qw2 w3 qw3 (hB (by omega) hc2)
      refine OwnWp.retZ X0 hx hlk Bd.returns (hb hby d2_64) (by decide) (by decide) (Or.inr hq) ?_
      exact ⟨by rw [hq], N0, e0⟩
    · refine OwnWp.step (U' := s₁.setTop (mkF m 10 #[.val (.ref a1), .val (.int p1), .val (.int p2), .val (.int p3), .val (.int p4), .val (.int p5), .val (.ref a2), .unset, .unset] [])) (fun t k => ?_) ?_
      · show Steps p.tables e below (s₁.setTop (mkF m 7 #[.val (.ref a1), .val (.int p1), .val (.int p2), .val (.int p3), .val (.int p4), .val (.int p5), .val (.ref a2), .unset, .unset] [(.int p3), (.int p1)])) _
        refine XS.icmpNo X0.here hx rfl (hb hby d2_7) rfl (XT.ii_lt_f c7_10) ?_
        exact k
      have hq : (g p1.toInt) = p5 := hA (Or.inr (by rw [Int32.lt_iff_toInt_lt] at c7_10; omega))
      refine OwnWp.step (U' := s₁.setTop (mkF m 23 #[.val (.ref a1), .val (.int p1), .val (.int p2), .val (.int p3), .val (.int p4), .val (.int p5), .val (.ref a2), .unset, .unset] [(.int (1 : Int32))])) (fun t k => ?_) ?_
      · show Steps p.tables e below (s₁.setTop (mkF m 10 #[.val (.ref a1), .val (.int p1), .val (.int p2), .val (.int p3), .val (.int p4), .val (.int p5), .val (.ref a2), .unset, .unset] [])) _
        refine XS.aloadN X0.here hx rfl (hb hby d2_10) rfl rfl ?_
        show Steps p.tables e below (s₁.setTop (mkF m 11 #[.val (.ref a1), .val (.int p1), .val (.int p2), .val (.int p3), .val (.int p4), .val (.int p5), .val (.ref a2), .unset, .unset] [(.ref a1)])) _
        refine XS.iloadN X0.here hx rfl (hb hby d2_11) rfl ?_
        show Steps p.tables e below (s₁.setTop (mkF m 12 #[.val (.ref a1), .val (.int p1), .val (.int p2), .val (.int p3), .val (.int p4), .val (.int p5), .val (.ref a2), .unset, .unset] [(.int p1), (.ref a1)])) _
        refine OwnA.ldC X0 hx hZ e0 A0 h1.1 (by rw [show (14 : Int32).toInt = 14 from rfl]; exact h1.2) rfl rfl (hb hby d2_12) ?_
        show Steps p.tables e below (s₁.setTop (mkF m 13 #[.val (.ref a1), .val (.int p1), .val (.int p2), .val (.int p3), .val (.int p4), .val (.int p5), .val (.ref a2), .unset, .unset] [(.int (g p1.toInt))])) _
        refine XS.iload X0.here hx rfl (hb hby d2_13) rfl ?_
        show Steps p.tables e below (s₁.setTop (mkF m 15 #[.val (.ref a1), .val (.int p1), .val (.int p2), .val (.int p3), .val (.int p4), .val (.int p5), .val (.ref a2), .unset, .unset] [(.int p5), (.int (g p1.toInt))])) _
        refine XS.icmpNo X0.here hx rfl (hb hby d2_15) rfl (XT.ii_ne_f hq) ?_
        show Steps p.tables e below (s₁.setTop (mkF m 18 #[.val (.ref a1), .val (.int p1), .val (.int p2), .val (.int p3), .val (.int p4), .val (.int p5), .val (.ref a2), .unset, .unset] [])) _
        refine XT.iconstV X0.here hx rfl (1 : Int32) (hb hby d2_18) rfl ?_
        show Steps p.tables e below (s₁.setTop (mkF m 19 #[.val (.ref a1), .val (.int p1), .val (.int p2), .val (.int p3), .val (.int p4), .val (.int p5), .val (.ref a2), .unset, .unset] [(.int (1 : Int32))])) _
        refine XS.goto X0.here hx rfl (pc0 := 19) (pc' := 23) rfl (hb hby d2_19) (by decide) (by decide) ?_
        show Steps p.tables e below (s₁.setTop (mkF m 23 #[.val (.ref a1), .val (.int p1), .val (.int p2), .val (.int p3), .val (.int p4), .val (.int p5), .val (.ref a2), .unset, .unset] [(.int (1 : Int32))])) _
        exact k
      refine OwnWp.retZ X0 hx hlk Bd.returns (hb hby d2_23) (by decide) (by decide) (by decide) ?_
      exact ⟨rfl, N0, e0⟩
theorem own_fillC (w5 : Int32) (hc : nar .char w5 = w5) (i : Int) (h1 : 0 ≤ i) (h2 : i < (14 : Int32).toInt) : Value.int ((ownUpd (ownUpd (ownUpd (ownUpd (ownUpd (ownUpd (ownUpd (ownUpd (ownUpd (ownUpd (ownUpd (ownUpd (ownUpd (ownUpd (fun _ => (0 : Int32)) (0 : Int32).toInt (nar .char w5)) (1 : Int32).toInt (nar .char w5)) (2 : Int32).toInt (nar .char w5)) (3 : Int32).toInt (nar .char w5)) (4 : Int32).toInt (nar .char w5)) (5 : Int32).toInt (nar .char w5)) (6 : Int32).toInt (nar .char w5)) (7 : Int32).toInt (nar .char w5)) (8 : Int32).toInt (nar .char w5)) (9 : Int32).toInt (nar .char w5)) (10 : Int32).toInt (nar .char w5)) (11 : Int32).toInt (nar .char w5)) (12 : Int32).toInt (nar .char w5)) (13 : Int32).toInt (nar .char w5)) i) = Value.int w5 := by
  have h3 : i < 14 := h2
  rw [hc]
  have hc : i = 0 ∨ i = 1 ∨ i = 2 ∨ i = 3 ∨ i = 4 ∨ i = 5 ∨ i = 6 ∨ i = 7 ∨ i = 8 ∨ i = 9 ∨ i = 10 ∨ i = 11 ∨ i = 12 ∨ i = 13 := by omega
  rcases hc with rfl | rfl | rfl | rfl | rfl | rfl | rfl | rfl | rfl | rfl | rfl | rfl | rfl | rfl <;> rfl
theorem own_fill (i : Int) (h1 : 0 ≤ i) (h2 : i < (12 : Int32).toInt) : Value.long ((ownUpd (ownUpd (ownUpd (ownUpd (ownUpd (ownUpd (ownUpd (ownUpd (ownUpd (ownUpd (ownUpd (ownUpd (fun _ => (0 : Int64)) (0 : Int32).toInt (1 : Int64)) (1 : Int32).toInt (10 : Int64)) (2 : Int32).toInt (100 : Int64)) (3 : Int32).toInt (1000 : Int64)) (4 : Int32).toInt (10000 : Int64)) (5 : Int32).toInt (100000 : Int64)) (6 : Int32).toInt (1000000 : Int64)) (7 : Int32).toInt (10000000 : Int64)) (8 : Int32).toInt (100000000 : Int64)) (9 : Int32).toInt (1000000000 : Int64)) (10 : Int32).toInt (10000000000 : Int64)) (11 : Int32).toInt (100000000000 : Int64)) i) = Value.long (own_p i) := by
  have h3 : i < 12 := h2
  have hall : ∀ k : Fin 12, (ownUpd (ownUpd (ownUpd (ownUpd (ownUpd (ownUpd (ownUpd (ownUpd (ownUpd (ownUpd (ownUpd (ownUpd (fun _ => (0 : Int64)) (0 : Int32).toInt (1 : Int64)) (1 : Int32).toInt (10 : Int64)) (2 : Int32).toInt (100 : Int64)) (3 : Int32).toInt (1000 : Int64)) (4 : Int32).toInt (10000 : Int64)) (5 : Int32).toInt (100000 : Int64)) (6 : Int32).toInt (1000000 : Int64)) (7 : Int32).toInt (10000000 : Int64)) (8 : Int32).toInt (100000000 : Int64)) (9 : Int32).toInt (1000000000 : Int64)) (10 : Int32).toInt (10000000000 : Int64)) (11 : Int32).toInt (100000000000 : Int64)) ((k.1 : Nat) : Int) = own_p ((k.1 : Nat) : Int) := by decide +kernel
  have := hall ⟨i.toNat, by omega⟩
  rw [show (((⟨i.toNat, by omega⟩ : Fin 12).1 : Nat) : Int) = i from by show ((i.toNat : Nat) : Int) = i; omega] at this
  exact congrArg Value.long this
theorem pn_0 : plainFor (⟨"com/example/kalend/kalend/util/DigitsWritePinLaw", "law", "(IIII)Z"⟩ : MethodName) = true := plainFor_of_name (by first | (simp [plainName, overriddenIn]; done) | decide +kernel)
theorem pd_0 : parseMethodDescriptor "(IIII)Z" = some ⟨[.int, .int, .int, .int], some .boolean⟩ := by decide +kernel
theorem ef_0 (m : MethodId) (x0 : Int32) (x1 : Int32) (x2 : Int32) (x3 : Int32) : entryFrame m #[(.int x0), (.int x1), (.int x2), (.int x3)] maxLocals = mkF m 0 #[.val (.int x0), .val (.int x1), .val (.int x2), .val (.int x3), .unset, .unset, .unset, .unset, .unset, .unset, .unset] [] := by first | (simp [entryFrame, mkF, argsToLocals, Value.category, maxLocals]; done) | rfl
def Q0 (Z : State) (p1 : Int32) (p2 : Int32) (p3 : Int32) (p4 : Int32)  (h0 : Heap) (n0 : Nat) (v : Option Value) (h : Heap) (L : List Loc) : Prop := v = some (.int 1) ∧ Fr n0 L
set_option maxRecDepth 65536 in
set_option maxHeartbeats 40000000 in
theorem rm0 (l : Launch) (Z : State) (a0 : Array Value) (hw : ∀ d ∈ tables_1, d.before a0 Z = true) (ws : List Jvm.Cond) (p1 : Int32) (p2 : Int32) (p3 : Int32) (p4 : Int32)  (h0 : Heap) (n0 : Nat) (Z0 : n0 ≤ h0.size)  :
    MetFree l x (head1 (Jvm.Cond.code x code maxLocals ret :: ws) room_1) (fun a U => a = #[(.int p1), (.int p2), (.int p3), (.int p4)] ∧ Z.Warmed39 U.vm ∧ U.heap = h0) (fun _ _ _ _ _ => True) (fun _ U oc U' => ∃ v L, oc = .returned v ∧ Q0 Z p1 p2 p3 p4  h0 n0 v U'.heap L ∧ FrameEnd U oc U' L room_1.cells room_1.slots) := by
  refine MetFree.of_bodySF pn_0 hisR ?_
  intro p e s m args below meth c s₁ Bd hml0 hP hK
  obtain ⟨rfl, hZ, hh⟩ := hP
  have hx := Bd.exec
  have hby := Bd.bytes
  have hlk := BodyLoose.notSynchronized Bd
  have hml : c.maxLocals = 11 := hml0
  have hown : s.vm.findClass "com/example/kalend/kalend/util/DigitsWritePinLaw" = some m.cls := findClass_of_methodNamed Bd.named
  have hnm := (name_of_methodNamed Bd.named Bd.method).1
  have X0 : Stand p l e room_1 s m #[(.int p1), (.int p2), (.int p3), (.int p4)] below meth c s₁ [] 0 0 := Stand.of_body Bd
  have e0 : s₁.heap = h0 := by rw [← hh, Bd.state]; rfl
  have N0 := Fr.nil n0
  show OwnWp p e below s room_1.cells room_1.slots (Q0 Z p1 p2 p3 p4  h0 n0) (s₁.setTop (entryFrame m #[(.int p1), (.int p2), (.int p3), (.int p4)] maxLocals))
  refine OwnWp.cast (ef_0 m p1 p2 p3 p4) ?_
  show OwnWp p e below s _ _ _ (s₁.setTop (mkF m 0 #[.val (.int p1), .val (.int p2), .val (.int p3), .val (.int p4), .unset, .unset, .unset, .unset, .unset, .unset, .unset] []))
  obtain ⟨w1, qw1⟩ : ∃ z : Int32, z = (p1 &&& (2147483647 : Int32)) := ⟨_, rfl⟩
  refine OwnWp.step (U' := s₁.setTop (mkF m 6 #[.val (.int p1), .val (.int p2), .val (.int p3), .val (.int p4), .val (.int w1), .unset, .unset, .unset, .unset, .unset, .unset] [])) (fun t k => ?_) ?_
  · show Steps p.tables e below (s₁.setTop (mkF m 0 #[.val (.int p1), .val (.int p2), .val (.int p3), .val (.int p4), .unset, .unset, .unset, .unset, .unset, .unset, .unset] [])) _
    refine XS.iloadN X0.here hx rfl (hb hby at_0) rfl ?_
    show Steps p.tables e below (s₁.setTop (mkF m 1 #[.val (.int p1), .val (.int p2), .val (.int p3), .val (.int p4), .unset, .unset, .unset, .unset, .unset, .unset, .unset] [(.int p1)])) _
    refine X0.ldcI hx hown (mvT hZ (hw _ (List.mem_of_getElem? (i := 0) rfl))) rfl (hb hby at_1) ?_
    show Steps p.tables e below (s₁.setTop (mkF m 3 #[.val (.int p1), .val (.int p2), .val (.int p3), .val (.int p4), .unset, .unset, .unset, .unset, .unset, .unset, .unset] [(.int (2147483647 : Int32)), (.int p1)])) _
    refine XS.iand X0.here hx rfl (hb hby at_3) rfl ?_
    show Steps p.tables e below (s₁.setTop (mkF m 4 #[.val (.int p1), .val (.int p2), .val (.int p3), .val (.int p4), .unset, .unset, .unset, .unset, .unset, .unset, .unset] [(.int (p1 &&& (2147483647 : Int32)))])) _
    refine XS.istore X0.here hx rfl (hb hby at_4) rfl (l' := #[.val (.int p1), .val (.int p2), .val (.int p3), .val (.int p4), .val (.int (p1 &&& (2147483647 : Int32))), .unset, .unset, .unset, .unset, .unset, .unset]) rfl ?_
    show Steps p.tables e below (s₁.setTop (mkF m 6 #[.val (.int p1), .val (.int p2), .val (.int p3), .val (.int p4), .val (.int (p1 &&& (2147483647 : Int32))), .unset, .unset, .unset, .unset, .unset, .unset] [])) _
    rw [qw1] at k
    exact k
  obtain ⟨w2, qw2⟩ : ∃ z : Int32, z = ((p2 &&& (2147483647 : Int32)) % (12 : Int32)) := ⟨_, rfl⟩
  refine OwnWp.step (U' := s₁.setTop (mkF m 15 #[.val (.int p1), .val (.int p2), .val (.int p3), .val (.int p4), .val (.int w1), .val (.int w2), .unset, .unset, .unset, .unset, .unset] [])) (fun t k => ?_) ?_
  · show Steps p.tables e below (s₁.setTop (mkF m 6 #[.val (.int p1), .val (.int p2), .val (.int p3), .val (.int p4), .val (.int w1), .unset, .unset, .unset, .unset, .unset, .unset] [])) _
    refine XS.iloadN X0.here hx rfl (hb hby at_6) rfl ?_
    show Steps p.tables e below (s₁.setTop (mkF m 7 #[.val (.int p1), .val (.int p2), .val (.int p3), .val (.int p4), .val (.int w1), .unset, .unset, .unset, .unset, .unset, .unset] [(.int p2)])) _
    refine X0.ldcI hx hown (mvT hZ (hw _ (List.mem_of_getElem? (i := 0) rfl))) rfl (hb hby at_7) ?_
    show Steps p.tables e below (s₁.setTop (mkF m 9 #[.val (.int p1), .val (.int p2), .val (.int p3), .val (.int p4), .val (.int w1), .unset, .unset, .unset, .unset, .unset, .unset] [(.int (2147483647 : Int32)), (.int p2)])) _
    refine XS.iand X0.here hx rfl (hb hby at_9) rfl ?_
    show Steps p.tables e below (s₁.setTop (mkF m 10 #[.val (.int p1), .val (.int p2), .val (.int p3), .val (.int p4), .val (.int w1), .unset, .unset, .unset, .unset, .unset, .unset] [(.int (p2 &&& (2147483647 : Int32)))])) _
    refine XT.bipushV X0.here hx rfl (12 : Int32) (hb hby at_10) rfl ?_
    show Steps p.tables e below (s₁.setTop (mkF m 12 #[.val (.int p1), .val (.int p2), .val (.int p3), .val (.int p4), .val (.int w1), .unset, .unset, .unset, .unset, .unset, .unset] [(.int (12 : Int32)), (.int (p2 &&& (2147483647 : Int32)))])) _
    refine iremM X0 hx rfl (hb hby at_12) rfl (by decide) ?_
    show Steps p.tables e below (s₁.setTop (mkF m 13 #[.val (.int p1), .val (.int p2), .val (.int p3), .val (.int p4), .val (.int w1), .unset, .unset, .unset, .unset, .unset, .unset] [(.int ((p2 &&& (2147483647 : Int32)) % (12 : Int32)))])) _
    refine XS.istore X0.here hx rfl (hb hby at_13) rfl (l' := #[.val (.int p1), .val (.int p2), .val (.int p3), .val (.int p4), .val (.int w1), .val (.int ((p2 &&& (2147483647 : Int32)) % (12 : Int32))), .unset, .unset, .unset, .unset, .unset]) rfl ?_
    show Steps p.tables e below (s₁.setTop (mkF m 15 #[.val (.int p1), .val (.int p2), .val (.int p3), .val (.int p4), .val (.int w1), .val (.int ((p2 &&& (2147483647 : Int32)) % (12 : Int32))), .unset, .unset, .unset, .unset, .unset] [])) _
    rw [qw2] at k
    exact k
  obtain ⟨w3, qw3⟩ : ∃ z : Int32, z = ((p3 &&& (2147483647 : Int32)) % ((15 : Int32) - w2)) := ⟨_, rfl⟩
  refine OwnWp.step (U' := s₁.setTop (mkF m 27 #[.val (.int p1), .val (.int p2), .val (.int p3), .val (.int p4), .val (.int w1), .val (.int w2), .val (.int w3), .unset, .unset, .unset, .unset] [])) (fun t k => ?_) ?_
  · show Steps p.tables e below (s₁.setTop (mkF m 15 #[.val (.int p1), .val (.int p2), .val (.int p3), .val (.int p4), .val (.int w1), .val (.int w2), .unset, .unset, .unset, .unset, .unset] [])) _
    refine XS.iloadN X0.here hx rfl (hb hby at_15) rfl ?_
    show Steps p.tables e below (s₁.setTop (mkF m 16 #[.val (.int p1), .val (.int p2), .val (.int p3), .val (.int p4), .val (.int w1), .val (.int w2), .unset, .unset, .unset, .unset, .unset] [(.int p3)])) _
    refine X0.ldcI hx hown (mvT hZ (hw _ (List.mem_of_getElem? (i := 0) rfl))) rfl (hb hby at_16) ?_
    show Steps p.tables e below (s₁.setTop (mkF m 18 #[.val (.int p1), .val (.int p2), .val (.int p3), .val (.int p4), .val (.int w1), .val (.int w2), .unset, .unset, .unset, .unset, .unset] [(.int (2147483647 : Int32)), (.int p3)])) _
    refine XS.iand X0.here hx rfl (hb hby at_18) rfl ?_
    show Steps p.tables e below (s₁.setTop (mkF m 19 #[.val (.int p1), .val (.int p2), .val (.int p3), .val (.int p4), .val (.int w1), .val (.int w2), .unset, .unset, .unset, .unset, .unset] [(.int (p3 &&& (2147483647 : Int32)))])) _
    refine XT.bipushV X0.here hx rfl (15 : Int32) (hb hby at_19) rfl ?_
    show Steps p.tables e below (s₁.setTop (mkF m 21 #[.val (.int p1), .val (.int p2), .val (.int p3), .val (.int p4), .val (.int w1), .val (.int w2), .unset, .unset, .unset, .unset, .unset] [(.int (15 : Int32)), (.int (p3 &&& (2147483647 : Int32)))])) _
    refine XS.iload X0.here hx rfl (hb hby at_21) rfl ?_
    show Steps p.tables e below (s₁.setTop (mkF m 23 #[.val (.int p1), .val (.int p2), .val (.int p3), .val (.int p4), .val (.int w1), .val (.int w2), .unset, .unset, .unset, .unset, .unset] [(.int w2), (.int (15 : Int32)), (.int (p3 &&& (2147483647 : Int32)))])) _
    refine XS.isub X0.here hx rfl (hb hby at_23) rfl ?_
    show Steps p.tables e below (s₁.setTop (mkF m 24 #[.val (.int p1), .val (.int p2), .val (.int p3), .val (.int p4), .val (.int w1), .val (.int w2), .unset, .unset, .unset, .unset, .unset] [(.int ((15 : Int32) - w2)), (.int (p3 &&& (2147483647 : Int32)))])) _
    refine iremM X0 hx rfl (hb hby at_24) rfl (own_w15 p2 w2 qw2) ?_
    show Steps p.tables e below (s₁.setTop (mkF m 25 #[.val (.int p1), .val (.int p2), .val (.int p3), .val (.int p4), .val (.int w1), .val (.int w2), .unset, .unset, .unset, .unset, .unset] [(.int ((p3 &&& (2147483647 : Int32)) % ((15 : Int32) - w2)))])) _
    refine XS.istore X0.here hx rfl (hb hby at_25) rfl (l' := #[.val (.int p1), .val (.int p2), .val (.int p3), .val (.int p4), .val (.int w1), .val (.int w2), .val (.int ((p3 &&& (2147483647 : Int32)) % ((15 : Int32) - w2))), .unset, .unset, .unset, .unset]) rfl ?_
    show Steps p.tables e below (s₁.setTop (mkF m 27 #[.val (.int p1), .val (.int p2), .val (.int p3), .val (.int p4), .val (.int w1), .val (.int w2), .val (.int ((p3 &&& (2147483647 : Int32)) % ((15 : Int32) - w2))), .unset, .unset, .unset, .unset] [])) _
    rw [qw3] at k
    exact k
  obtain ⟨w4, qw4⟩ : ∃ z : Int32, z = (w3 + w2) := ⟨_, rfl⟩
  refine OwnWp.step (U' := s₁.setTop (mkF m 34 #[.val (.int p1), .val (.int p2), .val (.int p3), .val (.int p4), .val (.int w1), .val (.int w2), .val (.int w3), .val (.int w4), .unset, .unset, .unset] [])) (fun t k => ?_) ?_
  · show Steps p.tables e below (s₁.setTop (mkF m 27 #[.val (.int p1), .val (.int p2), .val (.int p3), .val (.int p4), .val (.int w1), .val (.int w2), .val (.int w3), .unset, .unset, .unset, .unset] [])) _
    refine XS.iload X0.here hx rfl (hb hby at_27) rfl ?_
    show Steps p.tables e below (s₁.setTop (mkF m 29 #[.val (.int p1), .val (.int p2), .val (.int p3), .val (.int p4), .val (.int w1), .val (.int w2), .val (.int w3), .unset, .unset, .unset, .unset] [(.int w3)])) _
    refine XS.iload X0.here hx rfl (hb hby at_29) rfl ?_
    show Steps p.tables e below (s₁.setTop (mkF m 31 #[.val (.int p1), .val (.int p2), .val (.int p3), .val (.int p4), .val (.int w1), .val (.int w2), .val (.int w3), .unset, .unset, .unset, .unset] [(.int w2), (.int w3)])) _
    refine XS.iadd X0.here hx rfl (hb hby at_31) rfl ?_
    show Steps p.tables e below (s₁.setTop (mkF m 32 #[.val (.int p1), .val (.int p2), .val (.int p3), .val (.int p4), .val (.int w1), .val (.int w2), .val (.int w3), .unset, .unset, .unset, .unset] [(.int (w3 + w2))])) _
    refine XS.istore X0.here hx rfl (hb hby at_32) rfl (l' := #[.val (.int p1), .val (.int p2), .val (.int p3), .val (.int p4), .val (.int w1), .val (.int w2), .val (.int w3), .val (.int (w3 + w2)), .unset, .unset, .unset]) rfl ?_
    show Steps p.tables e below (s₁.setTop (mkF m 34 #[.val (.int p1), .val (.int p2), .val (.int p3), .val (.int p4), .val (.int w1), .val (.int w2), .val (.int w3), .val (.int (w3 + w2)), .unset, .unset, .unset] [])) _
    rw [qw4] at k
    exact k
  obtain ⟨w5, qw5⟩ : ∃ z : Int32, z = (p4 &&& (65535 : Int32)).toUInt32.toUInt16.toUInt32.toInt32 := ⟨_, rfl⟩
  refine OwnWp.step (U' := s₁.setTop (mkF m 41 #[.val (.int p1), .val (.int p2), .val (.int p3), .val (.int p4), .val (.int w1), .val (.int w2), .val (.int w3), .val (.int w4), .val (.int w5), .unset, .unset] [])) (fun t k => ?_) ?_
  · show Steps p.tables e below (s₁.setTop (mkF m 34 #[.val (.int p1), .val (.int p2), .val (.int p3), .val (.int p4), .val (.int w1), .val (.int w2), .val (.int w3), .val (.int w4), .unset, .unset, .unset] [])) _
    refine XS.iloadN X0.here hx rfl (hb hby at_34) rfl ?_
    show Steps p.tables e below (s₁.setTop (mkF m 35 #[.val (.int p1), .val (.int p2), .val (.int p3), .val (.int p4), .val (.int w1), .val (.int w2), .val (.int w3), .val (.int w4), .unset, .unset, .unset] [(.int p4)])) _
    refine X0.ldcI hx hown (mvT hZ (hw _ (List.mem_of_getElem? (i := 1) rfl))) rfl (hb hby at_35) ?_
    show Steps p.tables e below (s₁.setTop (mkF m 37 #[.val (.int p1), .val (.int p2), .val (.int p3), .val (.int p4), .val (.int w1), .val (.int w2), .val (.int w3), .val (.int w4), .unset, .unset, .unset] [(.int (65535 : Int32)), (.int p4)])) _
    refine XS.iand X0.here hx rfl (hb hby at_37) rfl ?_
    show Steps p.tables e below (s₁.setTop (mkF m 38 #[.val (.int p1), .val (.int p2), .val (.int p3), .val (.int p4), .val (.int w1), .val (.int w2), .val (.int w3), .val (.int w4), .unset, .unset, .unset] [(.int (p4 &&& (65535 : Int32)))])) _
    refine XT.i2c X0.here hx rfl (hb hby at_38) rfl ?_
    show Steps p.tables e below (s₁.setTop (mkF m 39 #[.val (.int p1), .val (.int p2), .val (.int p3), .val (.int p4), .val (.int w1), .val (.int w2), .val (.int w3), .val (.int w4), .unset, .unset, .unset] [(.int (p4 &&& (65535 : Int32)).toUInt32.toUInt16.toUInt32.toInt32)])) _
    refine XS.istore X0.here hx rfl (hb hby at_39) rfl (l' := #[.val (.int p1), .val (.int p2), .val (.int p3), .val (.int p4), .val (.int w1), .val (.int w2), .val (.int w3), .val (.int w4), .val (.int (p4 &&& (65535 : Int32)).toUInt32.toUInt16.toUInt32.toInt32), .unset, .unset]) rfl ?_
    show Steps p.tables e below (s₁.setTop (mkF m 41 #[.val (.int p1), .val (.int p2), .val (.int p3), .val (.int p4), .val (.int w1), .val (.int w2), .val (.int w3), .val (.int w4), .val (.int (p4 &&& (65535 : Int32)).toUInt32.toUInt16.toUInt32.toInt32), .unset, .unset] [])) _
    rw [qw5] at k
    exact k
  refine OwnWp.step (U' := s₁.setTop (mkF m 43 #[.val (.int p1), .val (.int p2), .val (.int p3), .val (.int p4), .val (.int w1), .val (.int w2), .val (.int w3), .val (.int w4), .val (.int w5), .unset, .unset] [(.int (14 : Int32))])) (fun t k => ?_) ?_
  · show Steps p.tables e below (s₁.setTop (mkF m 41 #[.val (.int p1), .val (.int p2), .val (.int p3), .val (.int p4), .val (.int w1), .val (.int w2), .val (.int w3), .val (.int w4), .val (.int w5), .unset, .unset] [])) _
    refine XT.bipushV X0.here hx rfl (14 : Int32) (hb hby at_41) rfl ?_
    show Steps p.tables e below (s₁.setTop (mkF m 43 #[.val (.int p1), .val (.int p2), .val (.int p3), .val (.int p4), .val (.int w1), .val (.int w2), .val (.int w3), .val (.int w4), .val (.int w5), .unset, .unset] [(.int (14 : Int32))])) _
    exact k
  obtain ⟨hv, hbg, hbe, he, hwd⟩ := own_rngs p1 p2 p3 w1 qw1 w2 qw2 w3 qw3 w4 qw4
  obtain ⟨T12, h12, cA12, X12, e12, E12, Ar12, st12⟩ := newP X0 hx hZ (aty := .char) (hw _ (List.mem_of_getElem? (i := 2) rfl)) e0 (g := (mkF m 43 #[.val (.int p1), .val (.int p2), .val (.int p3), .val (.int p4), .val (.int w1), .val (.int w2), .val (.int w3), .val (.int w4), .val (.int w5), .unset, .unset] [(.int (14 : Int32))])) rfl (hb hby at_43) rfl (by decide) (cap := 14) (by decide) (by decide) (by decide) (by decide)
  obtain ⟨ad12, ga12⟩ : ∃ z, z = h0.size := ⟨_, rfl⟩
  rw [← ga12] at Ar12 st12
  refine OwnWp.step st12 ?_
  have Z12 : n0 ≤ h12.size := Nat.le_trans Z0 E12.1
  have b12 : n0 ≤ ad12 := Nat.le_trans Z0 (Nat.le_of_eq ga12.symm)
  have F13 : OwnA Z h12 ad12 .char (14 : Int32) (fun _ => (.int (0 : Int32))) := OwnA.new Ar12 (by decide)
  show OwnWp p e below s _ _ _ (T12.setTop (mkF m 45 #[.val (.int p1), .val (.int p2), .val (.int p3), .val (.int p4), .val (.int w1), .val (.int w2), .val (.int w3), .val (.int w4), .val (.int w5), .unset, .unset] [(.ref ad12)]))
  refine OwnWp.step (U' := T12.setTop (mkF m 49 #[.val (.int p1), .val (.int p2), .val (.int p3), .val (.int p4), .val (.int w1), .val (.int w2), .val (.int w3), .val (.int w4), .val (.int w5), .unset, .unset] [(.int w5), (.int (0 : Int32)), (.ref ad12), (.ref ad12)])) (fun t k => ?_) ?_
  · show Steps p.tables e below (T12.setTop (mkF m 45 #[.val (.int p1), .val (.int p2), .val (.int p3), .val (.int p4), .val (.int w1), .val (.int w2), .val (.int w3), .val (.int w4), .val (.int w5), .unset, .unset] [(.ref ad12)])) _
    refine XS.dup X12.here hx rfl (hb hby at_45) rfl rfl ?_
    show Steps p.tables e below (T12.setTop (mkF m 46 #[.val (.int p1), .val (.int p2), .val (.int p3), .val (.int p4), .val (.int w1), .val (.int w2), .val (.int w3), .val (.int w4), .val (.int w5), .unset, .unset] [(.ref ad12), (.ref ad12)])) _
    refine XT.iconstV X12.here hx rfl (0 : Int32) (hb hby at_46) rfl ?_
    show Steps p.tables e below (T12.setTop (mkF m 47 #[.val (.int p1), .val (.int p2), .val (.int p3), .val (.int p4), .val (.int w1), .val (.int w2), .val (.int w3), .val (.int w4), .val (.int w5), .unset, .unset] [(.int (0 : Int32)), (.ref ad12), (.ref ad12)])) _
    refine XS.iload X12.here hx rfl (hb hby at_47) rfl ?_
    show Steps p.tables e below (T12.setTop (mkF m 49 #[.val (.int p1), .val (.int p2), .val (.int p3), .val (.int p4), .val (.int w1), .val (.int w2), .val (.int w3), .val (.int w4), .val (.int w5), .unset, .unset] [(.int w5), (.int (0 : Int32)), (.ref ad12), (.ref ad12)])) _
    exact k
  obtain ⟨T14, h14, L14, X14, e14, N14, K14, F14, st14⟩ := OwnA.stC X12 hx hZ e12 N0 b12 F13 (by decide) (by decide) (g := (mkF m 49 #[.val (.int p1), .val (.int p2), .val (.int p3), .val (.int p4), .val (.int w1), .val (.int w2), .val (.int w3), .val (.int w4), .val (.int w5), .unset, .unset] [(.int w5), (.int (0 : Int32)), (.ref ad12), (.ref ad12)])) rfl rfl (hb hby at_49)
  refine OwnWp.step st14 ?_
  have Z14 : n0 ≤ h14.size := Nat.le_trans Z12 K14.1
  have F15 : OwnA Z h14 ad12 .char (14 : Int32) (fun zi => .int ((ownUpd (fun _ => (0 : Int32)) (0 : Int32).toInt (nar .char w5)) zi)) := F14.congr (fun zi _ _ => by exact ownUpd_int (fun _ => (0 : Int32)) _ _ zi)
  show OwnWp p e below s _ _ _ (T14.setTop (mkF m 50 #[.val (.int p1), .val (.int p2), .val (.int p3), .val (.int p4), .val (.int w1), .val (.int w2), .val (.int w3), .val (.int w4), .val (.int w5), .unset, .unset] [(.ref ad12)]))
  refine OwnWp.step (U' := T14.setTop (mkF m 54 #[.val (.int p1), .val (.int p2), .val (.int p3), .val (.int p4), .val (.int w1), .val (.int w2), .val (.int w3), .val (.int w4), .val (.int w5), .unset, .unset] [(.int w5), (.int (1 : Int32)), (.ref ad12), (.ref ad12)])) (fun t k => ?_) ?_
  · show Steps p.tables e below (T14.setTop (mkF m 50 #[.val (.int p1), .val (.int p2), .val (.int p3), .val (.int p4), .val (.int w1), .val (.int w2), .val (.int w3), .val (.int w4), .val (.int w5), .unset, .unset] [(.ref ad12)])) _
    refine XS.dup X14.here hx rfl (hb hby at_50) rfl rfl ?_
    show Steps p.tables e below (T14.setTop (mkF m 51 #[.val (.int p1), .val (.int p2), .val (.int p3), .val (.int p4), .val (.int w1), .val (.int w2), .val (.int w3), .val (.int w4), .val (.int w5), .unset, .unset] [(.ref ad12), (.ref ad12)])) _
    refine XT.iconstV X14.here hx rfl (1 : Int32) (hb hby at_51) rfl ?_
    show Steps p.tables e below (T14.setTop (mkF m 52 #[.val (.int p1), .val (.int p2), .val (.int p3), .val (.int p4), .val (.int w1), .val (.int w2), .val (.int w3), .val (.int w4), .val (.int w5), .unset, .unset] [(.int (1 : Int32)), (.ref ad12), (.ref ad12)])) _
    refine XS.iload X14.here hx rfl (hb hby at_52) rfl ?_
    show Steps p.tables e below (T14.setTop (mkF m 54 #[.val (.int p1), .val (.int p2), .val (.int p3), .val (.int p4), .val (.int w1), .val (.int w2), .val (.int w3), .val (.int w4), .val (.int w5), .unset, .unset] [(.int w5), (.int (1 : Int32)), (.ref ad12), (.ref ad12)])) _
    exact k
  obtain ⟨T16, h16, L16, X16, e16, N16, K16, F16, st16⟩ := OwnA.stC X14 hx hZ e14 N14 b12 F15 (by decide) (by decide) (g := (mkF m 54 #[.val (.int p1), .val (.int p2), .val (.int p3), .val (.int p4), .val (.int w1), .val (.int w2), .val (.int w3), .val (.int w4), .val (.int w5), .unset, .unset] [(.int w5), (.int (1 : Int32)), (.ref ad12), (.ref ad12)])) rfl rfl (hb hby at_54)
  refine OwnWp.step st16 ?_
  have Z16 : n0 ≤ h16.size := Nat.le_trans Z14 K16.1
  have F17 : OwnA Z h16 ad12 .char (14 : Int32) (fun zi => .int ((ownUpd (ownUpd (fun _ => (0 : Int32)) (0 : Int32).toInt (nar .char w5)) (1 : Int32).toInt (nar .char w5)) zi)) := F16.congr (fun zi _ _ => by exact ownUpd_int (ownUpd (fun _ => (0 : Int32)) (0 : Int32).toInt (nar .char w5)) _ _ zi)
  show OwnWp p e below s _ _ _ (T16.setTop (mkF m 55 #[.val (.int p1), .val (.int p2), .val (.int p3), .val (.int p4), .val (.int w1), .val (.int w2), .val (.int w3), .val (.int w4), .val (.int w5), .unset, .unset] [(.ref ad12)]))
  refine OwnWp.step (U' := T16.setTop (mkF m 59 #[.val (.int p1), .val (.int p2), .val (.int p3), .val (.int p4), .val (.int w1), .val (.int w2), .val (.int w3), .val (.int w4), .val (.int w5), .unset, .unset] [(.int w5), (.int (2 : Int32)), (.ref ad12), (.ref ad12)])) (fun t k => ?_) ?_
  · show Steps p.tables e below (T16.setTop (mkF m 55 #[.val (.int p1), .val (.int p2), .val (.int p3), .val (.int p4), .val (.int w1), .val (.int w2), .val (.int w3), .val (.int w4), .val (.int w5), .unset, .unset] [(.ref ad12)])) _
    refine XS.dup X16.here hx rfl (hb hby at_55) rfl rfl ?_
    show Steps p.tables e below (T16.setTop (mkF m 56 #[.val (.int p1), .val (.int p2), .val (.int p3), .val (.int p4), .val (.int w1), .val (.int w2), .val (.int w3), .val (.int w4), .val (.int w5), .unset, .unset] [(.ref ad12), (.ref ad12)])) _
    refine XT.iconstV X16.here hx rfl (2 : Int32) (hb hby at_56) rfl ?_
    show Steps p.tables e below (T16.setTop (mkF m 57 #[.val (.int p1), .val (.int p2), .val (.int p3), .val (.int p4), .val (.int w1), .val (.int w2), .val (.int w3), .val (.int w4), .val (.int w5), .unset, .unset] [(.int (2 : Int32)), (.ref ad12), (.ref ad12)])) _
    refine XS.iload X16.here hx rfl (hb hby at_57) rfl ?_
    show Steps p.tables e below (T16.setTop (mkF m 59 #[.val (.int p1), .val (.int p2), .val (.int p3), .val (.int p4), .val (.int w1), .val (.int w2), .val (.int w3), .val (.int w4), .val (.int w5), .unset, .unset] [(.int w5), (.int (2 : Int32)), (.ref ad12), (.ref ad12)])) _
    exact k
  obtain ⟨T18, h18, L18, X18, e18, N18, K18, F18, st18⟩ := OwnA.stC X16 hx hZ e16 N16 b12 F17 (by decide) (by decide) (g := (mkF m 59 #[.val (.int p1), .val (.int p2), .val (.int p3), .val (.int p4), .val (.int w1), .val (.int w2), .val (.int w3), .val (.int w4), .val (.int w5), .unset, .unset] [(.int w5), (.int (2 : Int32)), (.ref ad12), (.ref ad12)])) rfl rfl (hb hby at_59)
  refine OwnWp.step st18 ?_
  have Z18 : n0 ≤ h18.size := Nat.le_trans Z16 K18.1
  have F19 : OwnA Z h18 ad12 .char (14 : Int32) (fun zi => .int ((ownUpd (ownUpd (ownUpd (fun _ => (0 : Int32)) (0 : Int32).toInt (nar .char w5)) (1 : Int32).toInt (nar .char w5)) (2 : Int32).toInt (nar .char w5)) zi)) := F18.congr (fun zi _ _ => by exact ownUpd_int (ownUpd (ownUpd (fun _ => (0 : Int32)) (0 : Int32).toInt (nar .char w5)) (1 : Int32).toInt (nar .char w5)) _ _ zi)
  show OwnWp p e below s _ _ _ (T18.setTop (mkF m 60 #[.val (.int p1), .val (.int p2), .val (.int p3), .val (.int p4), .val (.int w1), .val (.int w2), .val (.int w3), .val (.int w4), .val (.int w5), .unset, .unset] [(.ref ad12)]))
  refine OwnWp.step (U' := T18.setTop (mkF m 64 #[.val (.int p1), .val (.int p2), .val (.int p3), .val (.int p4), .val (.int w1), .val (.int w2), .val (.int w3), .val (.int w4), .val (.int w5), .unset, .unset] [(.int w5), (.int (3 : Int32)), (.ref ad12), (.ref ad12)])) (fun t k => ?_) ?_
  · show Steps p.tables e below (T18.setTop (mkF m 60 #[.val (.int p1), .val (.int p2), .val (.int p3), .val (.int p4), .val (.int w1), .val (.int w2), .val (.int w3), .val (.int w4), .val (.int w5), .unset, .unset] [(.ref ad12)])) _
    refine XS.dup X18.here hx rfl (hb hby at_60) rfl rfl ?_
    show Steps p.tables e below (T18.setTop (mkF m 61 #[.val (.int p1), .val (.int p2), .val (.int p3), .val (.int p4), .val (.int w1), .val (.int w2), .val (.int w3), .val (.int w4), .val (.int w5), .unset, .unset] [(.ref ad12), (.ref ad12)])) _
    refine XT.iconstV X18.here hx rfl (3 : Int32) (hb hby at_61) rfl ?_
    show Steps p.tables e below (T18.setTop (mkF m 62 #[.val (.int p1), .val (.int p2), .val (.int p3), .val (.int p4), .val (.int w1), .val (.int w2), .val (.int w3), .val (.int w4), .val (.int w5), .unset, .unset] [(.int (3 : Int32)), (.ref ad12), (.ref ad12)])) _
    refine XS.iload X18.here hx rfl (hb hby at_62) rfl ?_
    show Steps p.tables e below (T18.setTop (mkF m 64 #[.val (.int p1), .val (.int p2), .val (.int p3), .val (.int p4), .val (.int w1), .val (.int w2), .val (.int w3), .val (.int w4), .val (.int w5), .unset, .unset] [(.int w5), (.int (3 : Int32)), (.ref ad12), (.ref ad12)])) _
    exact k
  obtain ⟨T20, h20, L20, X20, e20, N20, K20, F20, st20⟩ := OwnA.stC X18 hx hZ e18 N18 b12 F19 (by decide) (by decide) (g := (mkF m 64 #[.val (.int p1), .val (.int p2), .val (.int p3), .val (.int p4), .val (.int w1), .val (.int w2), .val (.int w3), .val (.int w4), .val (.int w5), .unset, .unset] [(.int w5), (.int (3 : Int32)), (.ref ad12), (.ref ad12)])) rfl rfl (hb hby at_64)
  refine OwnWp.step st20 ?_
  have Z20 : n0 ≤ h20.size := Nat.le_trans Z18 K20.1
  have F21 : OwnA Z h20 ad12 .char (14 : Int32) (fun zi => .int ((ownUpd (ownUpd (ownUpd (ownUpd (fun _ => (0 : Int32)) (0 : Int32).toInt (nar .char w5)) (1 : Int32).toInt (nar .char w5)) (2 : Int32).toInt (nar .char w5)) (3 : Int32).toInt (nar .char w5)) zi)) := F20.congr (fun zi _ _ => by exact ownUpd_int (ownUpd (ownUpd (ownUpd (fun _ => (0 : Int32)) (0 : Int32).toInt (nar .char w5)) (1 : Int32).toInt (nar .char w5)) (2 : Int32).toInt (nar .char w5)) _ _ zi)
  show OwnWp p e below s _ _ _ (T20.setTop (mkF m 65 #[.val (.int p1), .val (.int p2), .val (.int p3), .val (.int p4), .val (.int w1), .val (.int w2), .val (.int w3), .val (.int w4), .val (.int w5), .unset, .unset] [(.ref ad12)]))
  refine OwnWp.step (U' := T20.setTop (mkF m 69 #[.val (.int p1), .val (.int p2), .val (.int p3), .val (.int p4), .val (.int w1), .val (.int w2), .val (.int w3), .val (.int w4), .val (.int w5), .unset, .unset] [(.int w5), (.int (4 : Int32)), (.ref ad12), (.ref ad12)])) (fun t k => ?_) ?_
  · show Steps p.tables e below (T20.setTop (mkF m 65 #[.val (.int p1), .val (.int p2), .val (.int p3), .val (.int p4), .val (.int w1), .val (.int w2), .val (.int w3), .val (.int w4), .val (.int w5), .unset, .unset] [(.ref ad12)])) _
    refine XS.dup X20.here hx rfl (hb hby at_65) rfl rfl ?_
    show Steps p.tables e below (T20.setTop (mkF m 66 #[.val (.int p1), .val (.int p2), .val (.int p3), .val (.int p4), .val (.int w1), .val (.int w2), .val (.int w3), .val (.int w4), .val (.int w5), .unset, .unset] [(.ref ad12), (.ref ad12)])) _
    refine XT.iconstV X20.here hx rfl (4 : Int32) (hb hby at_66) rfl ?_
    show Steps p.tables e below (T20.setTop (mkF m 67 #[.val (.int p1), .val (.int p2), .val (.int p3), .val (.int p4), .val (.int w1), .val (.int w2), .val (.int w3), .val (.int w4), .val (.int w5), .unset, .unset] [(.int (4 : Int32)), (.ref ad12), (.ref ad12)])) _
    refine XS.iload X20.here hx rfl (hb hby at_67) rfl ?_
    show Steps p.tables e below (T20.setTop (mkF m 69 #[.val (.int p1), .val (.int p2), .val (.int p3), .val (.int p4), .val (.int w1), .val (.int w2), .val (.int w3), .val (.int w4), .val (.int w5), .unset, .unset] [(.int w5), (.int (4 : Int32)), (.ref ad12), (.ref ad12)])) _
    exact k
  obtain ⟨T22, h22, L22, X22, e22, N22, K22, F22, st22⟩ := OwnA.stC X20 hx hZ e20 N20 b12 F21 (by decide) (by decide) (g := (mkF m 69 #[.val (.int p1), .val (.int p2), .val (.int p3), .val (.int p4), .val (.int w1), .val (.int w2), .val (.int w3), .val (.int w4), .val (.int w5), .unset, .unset] [(.int w5), (.int (4 : Int32)), (.ref ad12), (.ref ad12)])) rfl rfl (hb hby at_69)
  refine OwnWp.step st22 ?_
  have Z22 : n0 ≤ h22.size := Nat.le_trans Z20 K22.1
  have F23 : OwnA Z h22 ad12 .char (14 : Int32) (fun zi => .int ((ownUpd (ownUpd (ownUpd (ownUpd (ownUpd (fun _ => (0 : Int32)) (0 : Int32).toInt (nar .char w5)) (1 : Int32).toInt (nar .char w5)) (2 : Int32).toInt (nar .char w5)) (3 : Int32).toInt (nar .char w5)) (4 : Int32).toInt (nar .char w5)) zi)) := F22.congr (fun zi _ _ => by exact ownUpd_int (ownUpd (ownUpd (ownUpd (ownUpd (fun _ => (0 : Int32)) (0 : Int32).toInt (nar .char w5)) (1 : Int32).toInt (nar .char w5)) (2 : Int32).toInt (nar .char w5)) (3 : Int32).toInt (nar .char w5)) _ _ zi)
  show OwnWp p e below s _ _ _ (T22.setTop (mkF m 70 #[.val (.int p1), .val (.int p2), .val (.int p3), .val (.int p4), .val (.int w1), .val (.int w2), .val (.int w3), .val (.int w4), .val (.int w5), .unset, .unset] [(.ref ad12)]))
  refine OwnWp.step (U' := T22.setTop (mkF m 74 #[.val (.int p1), .val (.int p2), .val (.int p3), .val (.int p4), .val (.int w1), .val (.int w2), .val (.int w3), .val (.int w4), .val (.int w5), .unset, .unset] [(.int w5), (.int (5 : Int32)), (.ref ad12), (.ref ad12)])) (fun t k => ?_) ?_
  · show Steps p.tables e below (T22.setTop (mkF m 70 #[.val (.int p1), .val (.int p2), .val (.int p3), .val (.int p4), .val (.int w1), .val (.int w2), .val (.int w3), .val (.int w4), .val (.int w5), .unset, .unset] [(.ref ad12)])) _
    refine XS.dup X22.here hx rfl (hb hby at_70) rfl rfl ?_
    show Steps p.tables e below (T22.setTop (mkF m 71 #[.val (.int p1), .val (.int p2), .val (.int p3), .val (.int p4), .val (.int w1), .val (.int w2), .val (.int w3), .val (.int w4), .val (.int w5), .unset, .unset] [(.ref ad12), (.ref ad12)])) _
    refine XT.iconstV X22.here hx rfl (5 : Int32) (hb hby at_71) rfl ?_
    show Steps p.tables e below (T22.setTop (mkF m 72 #[.val (.int p1), .val (.int p2), .val (.int p3), .val (.int p4), .val (.int w1), .val (.int w2), .val (.int w3), .val (.int w4), .val (.int w5), .unset, .unset] [(.int (5 : Int32)), (.ref ad12), (.ref ad12)])) _
    refine XS.iload X22.here hx rfl (hb hby at_72) rfl ?_
    show Steps p.tables e below (T22.setTop (mkF m 74 #[.val (.int p1), .val (.int p2), .val (.int p3), .val (.int p4), .val (.int w1), .val (.int w2), .val (.int w3), .val (.int w4), .val (.int w5), .unset, .unset] [(.int w5), (.int (5 : Int32)), (.ref ad12), (.ref ad12)])) _
    exact k
  obtain ⟨T24, h24, L24, X24, e24, N24, K24, F24, st24⟩ := OwnA.stC X22 hx hZ e22 N22 b12 F23 (by decide) (by decide) (g := (mkF m 74 #[.val (.int p1), .val (.int p2), .val (.int p3), .val (.int p4), .val (.int w1), .val (.int w2), .val (.int w3), .val (.int w4), .val (.int w5), .unset, .unset] [(.int w5), (.int (5 : Int32)), (.ref ad12), (.ref ad12)])) rfl rfl (hb hby at_74)
  refine OwnWp.step st24 ?_
  have Z24 : n0 ≤ h24.size := Nat.le_trans Z22 K24.1
  have F25 : OwnA Z h24 ad12 .char (14 : Int32) (fun zi => .int ((ownUpd (ownUpd (ownUpd (ownUpd (ownUpd (ownUpd (fun _ => (0 : Int32)) (0 : Int32).toInt (nar .char w5)) (1 : Int32).toInt (nar .char w5)) (2 : Int32).toInt (nar .char w5)) (3 : Int32).toInt (nar .char w5)) (4 : Int32).toInt (nar .char w5)) (5 : Int32).toInt (nar .char w5)) zi)) := F24.congr (fun zi _ _ => by exact ownUpd_int (ownUpd (ownUpd (ownUpd (ownUpd (ownUpd (fun _ => (0 : Int32)) (0 : Int32).toInt (nar .char w5)) (1 : Int32).toInt (nar .char w5)) (2 : Int32).toInt (nar .char w5)) (3 : Int32).toInt (nar .char w5)) (4 : Int32).toInt (nar .char w5)) _ _ zi)
  show OwnWp p e below s _ _ _ (T24.setTop (mkF m 75 #[.val (.int p1), .val (.int p2), .val (.int p3), .val (.int p4), .val (.int w1), .val (.int w2), .val (.int w3), .val (.int w4), .val (.int w5), .unset, .unset] [(.ref ad12)]))
  refine OwnWp.step (U' := T24.setTop (mkF m 80 #[.val (.int p1), .val (.int p2), .val (.int p3), .val (.int p4), .val (.int w1), .val (.int w2), .val (.int w3), .val (.int w4), .val (.int w5), .unset, .unset] [(.int w5), (.int (6 : Int32)), (.ref ad12), (.ref ad12)])) (fun t k => ?_) ?_
  · show Steps p.tables e below (T24.setTop (mkF m 75 #[.val (.int p1), .val (.int p2), .val (.int p3), .val (.int p4), .val (.int w1), .val (.int w2), .val (.int w3), .val (.int w4), .val (.int w5), .unset, .unset] [(.ref ad12)])) _
    refine XS.dup X24.here hx rfl (hb hby at_75) rfl rfl ?_
    show Steps p.tables e below (T24.setTop (mkF m 76 #[.val (.int p1), .val (.int p2), .val (.int p3), .val (.int p4), .val (.int w1), .val (.int w2), .val (.int w3), .val (.int w4), .val (.int w5), .unset, .unset] [(.ref ad12), (.ref ad12)])) _
    refine XT.bipushV X24.here hx rfl (6 : Int32) (hb hby at_76) rfl ?_
    show Steps p.tables e below (T24.setTop (mkF m 78 #[.val (.int p1), .val (.int p2), .val (.int p3), .val (.int p4), .val (.int w1), .val (.int w2), .val (.int w3), .val (.int w4), .val (.int w5), .unset, .unset] [(.int (6 : Int32)), (.ref ad12), (.ref ad12)])) _
    refine XS.iload X24.here hx rfl (hb hby at_78) rfl ?_
    show Steps p.tables e below (T24.setTop (mkF m 80 #[.val (.int p1), .val (.int p2), .val (.int p3), .val (.int p4), .val (.int w1), .val (.int w2), .val (.int w3), .val (.int w4), .val (.int w5), .unset, .unset] [(.int w5), (.int (6 : Int32)), (.ref ad12), (.ref ad12)])) _
    exact k
  obtain ⟨T26, h26, L26, X26, e26, N26, K26, F26, st26⟩ := OwnA.stC X24 hx hZ e24 N24 b12 F25 (by decide) (by decide) (g := (mkF m 80 #[.val (.int p1), .val (.int p2), .val (.int p3), .val (.int p4), .val (.int w1), .val (.int w2), .val (.int w3), .val (.int w4), .val (.int w5), .unset, .unset] [(.int w5), (.int (6 : Int32)), (.ref ad12), (.ref ad12)])) rfl rfl (hb hby at_80)
  refine OwnWp.step st26 ?_
  have Z26 : n0 ≤ h26.size := Nat.le_trans Z24 K26.1
  have F27 : OwnA Z h26 ad12 .char (14 : Int32) (fun zi => .int ((ownUpd (ownUpd (ownUpd (ownUpd (ownUpd (ownUpd (ownUpd (fun _ => (0 : Int32)) (0 : Int32).toInt (nar .char w5)) (1 : Int32).toInt (nar .char w5)) (2 : Int32).toInt (nar .char w5)) (3 : Int32).toInt (nar .char w5)) (4 : Int32).toInt (nar .char w5)) (5 : Int32).toInt (nar .char w5)) (6 : Int32).toInt (nar .char w5)) zi)) := F26.congr (fun zi _ _ => by exact ownUpd_int (ownUpd (ownUpd (ownUpd (ownUpd (ownUpd (ownUpd (fun _ => (0 : Int32)) (0 : Int32).toInt (nar .char w5)) (1 : Int32).toInt (nar .char w5)) (2 : Int32).toInt (nar .char w5)) (3 : Int32).toInt (nar .char w5)) (4 : Int32).toInt (nar .char w5)) (5 : Int32).toInt (nar .char w5)) _ _ zi)
  show OwnWp p e below s _ _ _ (T26.setTop (mkF m 81 #[.val (.int p1), .val (.int p2), .val (.int p3), .val (.int p4), .val (.int w1), .val (.int w2), .val (.int w3), .val (.int w4), .val (.int w5), .unset, .unset] [(.ref ad12)]))
  refine OwnWp.step (U' := T26.setTop (mkF m 86 #[.val (.int p1), .val (.int p2), .val (.int p3), .val (.int p4), .val (.int w1), .val (.int w2), .val (.int w3), .val (.int w4), .val (.int w5), .unset, .unset] [(.int w5), (.int (7 : Int32)), (.ref ad12), (.ref ad12)])) (fun t k => ?_) ?_
  · show Steps p.tables e below (T26.setTop (mkF m 81 #[.val (.int p1), .val (.int p2), .val (.int p3), .val (.int p4), .val (.int w1), .val (.int w2), .val (.int w3), .val (.int w4), .val (.int w5), .unset, .unset] [(.ref ad12)])) _
    refine XS.dup X26.here hx rfl (hb hby at_81) rfl rfl ?_
    show Steps p.tables e below (T26.setTop (mkF m 82 #[.val (.int p1), .val (.int p2), .val (.int p3), .val (.int p4), .val (.int w1), .val (.int w2), .val (.int w3), .val (.int w4), .val (.int w5), .unset, .unset] [(.ref ad12), (.ref ad12)])) _
    refine XT.bipushV X26.here hx rfl (7 : Int32) (hb hby at_82) rfl ?_
    show Steps p.tables e below (T26.setTop (mkF m 84 #[.val (.int p1), .val (.int p2), .val (.int p3), .val (.int p4), .val (.int w1), .val (.int w2), .val (.int w3), .val (.int w4), .val (.int w5), .unset, .unset] [(.int (7 : Int32)), (.ref ad12), (.ref ad12)])) _
    refine XS.iload X26.here hx rfl (hb hby at_84) rfl ?_
    show Steps p.tables e below (T26.setTop (mkF m 86 #[.val (.int p1), .val (.int p2), .val (.int p3), .val (.int p4), .val (.int w1), .val (.int w2), .val (.int w3), .val (.int w4), .val (.int w5), .unset, .unset] [(.int w5), (.int (7 : Int32)), (.ref ad12), (.ref ad12)])) _
    exact k
  obtain ⟨T28, h28, L28, X28, e28, N28, K28, F28, st28⟩ := OwnA.stC X26 hx hZ e26 N26 b12 F27 (by decide) (by decide) (g := (mkF m 86 #[.val (.int p1), .val (.int p2), .val (.int p3), .val (.int p4), .val (.int w1), .val (.int w2), .val (.int w3), .val (.int w4), .val (.int w5), .unset, .unset] [(.int w5), (.int (7 : Int32)), (.ref ad12), (.ref ad12)])) rfl rfl (hb hby at_86)
  refine OwnWp.step st28 ?_
  have Z28 : n0 ≤ h28.size := Nat.le_trans Z26 K28.1
  have F29 : OwnA Z h28 ad12 .char (14 : Int32) (fun zi => .int ((ownUpd (ownUpd (ownUpd (ownUpd (ownUpd (ownUpd (ownUpd (ownUpd (fun _ => (0 : Int32)) (0 : Int32).toInt (nar .char w5)) (1 : Int32).toInt (nar .char w5)) (2 : Int32).toInt (nar .char w5)) (3 : Int32).toInt (nar .char w5)) (4 : Int32).toInt (nar .char w5)) (5 : Int32).toInt (nar .char w5)) (6 : Int32).toInt (nar .char w5)) (7 : Int32).toInt (nar .char w5)) zi)) := F28.congr (fun zi _ _ => by exact ownUpd_int (ownUpd (ownUpd (ownUpd (ownUpd (ownUpd (ownUpd (ownUpd (fun _ => (0 : Int32)) (0 : Int32).toInt (nar .char w5)) (1 : Int32).toInt (nar .char w5)) (2 : Int32).toInt (nar .char w5)) (3 : Int32).toInt (nar .char w5)) (4 : Int32).toInt (nar .char w5)) (5 : Int32).toInt (nar .char w5)) (6 : Int32).toInt (nar .char w5)) _ _ zi)
  show OwnWp p e below s _ _ _ (T28.setTop (mkF m 87 #[.val (.int p1), .val (.int p2), .val (.int p3), .val (.int p4), .val (.int w1), .val (.int w2), .val (.int w3), .val (.int w4), .val (.int w5), .unset, .unset] [(.ref ad12)]))
  refine OwnWp.step (U' := T28.setTop (mkF m 92 #[.val (.int p1), .val (.int p2), .val (.int p3), .val (.int p4), .val (.int w1), .val (.int w2), .val (.int w3), .val (.int w4), .val (.int w5), .unset, .unset] [(.int w5), (.int (8 : Int32)), (.ref ad12), (.ref ad12)])) (fun t k => ?_) ?_
  · show Steps p.tables e below (T28.setTop (mkF m 87 #[.val (.int p1), .val (.int p2), .val (.int p3), .val (.int p4), .val (.int w1), .val (.int w2), .val (.int w3), .val (.int w4), .val (.int w5), .unset, .unset] [(.ref ad12)])) _
    refine XS.dup X28.here hx rfl (hb hby at_87) rfl rfl ?_
    show Steps p.tables e below (T28.setTop (mkF m 88 #[.val (.int p1), .val (.int p2), .val (.int p3), .val (.int p4), .val (.int w1), .val (.int w2), .val (.int w3), .val (.int w4), .val (.int w5), .unset, .unset] [(.ref ad12), (.ref ad12)])) _
    refine XT.bipushV X28.here hx rfl (8 : Int32) (hb hby at_88) rfl ?_
    show Steps p.tables e below (T28.setTop (mkF m 90 #[.val (.int p1), .val (.int p2), .val (.int p3), .val (.int p4), .val (.int w1), .val (.int w2), .val (.int w3), .val (.int w4), .val (.int w5), .unset, .unset] [(.int (8 : Int32)), (.ref ad12), (.ref ad12)])) _
    refine XS.iload X28.here hx rfl (hb hby at_90) rfl ?_
    show Steps p.tables e below (T28.setTop (mkF m 92 #[.val (.int p1), .val (.int p2), .val (.int p3), .val (.int p4), .val (.int w1), .val (.int w2), .val (.int w3), .val (.int w4), .val (.int w5), .unset, .unset] [(.int w5), (.int (8 : Int32)), (.ref ad12), (.ref ad12)])) _
    exact k
  obtain ⟨T30, h30, L30, X30, e30, N30, K30, F30, st30⟩ := OwnA.stC X28 hx hZ e28 N28 b12 F29 (by decide) (by decide) (g := (mkF m 92 #[.val (.int p1), .val (.int p2), .val (.int p3), .val (.int p4), .val (.int w1), .val (.int w2), .val (.int w3), .val (.int w4), .val (.int w5), .unset, .unset] [(.int w5), (.int (8 : Int32)), (.ref ad12), (.ref ad12)])) rfl rfl (hb hby at_92)
  refine OwnWp.step st30 ?_
  have Z30 : n0 ≤ h30.size := Nat.le_trans Z28 K30.1
  have F31 : OwnA Z h30 ad12 .char (14 : Int32) (fun zi => .int ((ownUpd (ownUpd (ownUpd (ownUpd (ownUpd (ownUpd (ownUpd (ownUpd (ownUpd (fun _ => (0 : Int32)) (0 : Int32).toInt (nar .char w5)) (1 : Int32).toInt (nar .char w5)) (2 : Int32).toInt (nar .char w5)) (3 : Int32).toInt (nar .char w5)) (4 : Int32).toInt (nar .char w5)) (5 : Int32).toInt (nar .char w5)) (6 : Int32).toInt (nar .char w5)) (7 : Int32).toInt (nar .char w5)) (8 : Int32).toInt (nar .char w5)) zi)) := F30.congr (fun zi _ _ => by exact ownUpd_int (ownUpd (ownUpd (ownUpd (ownUpd (ownUpd (ownUpd (ownUpd (ownUpd (fun _ => (0 : Int32)) (0 : Int32).toInt (nar .char w5)) (1 : Int32).toInt (nar .char w5)) (2 : Int32).toInt (nar .char w5)) (3 : Int32).toInt (nar .char w5)) (4 : Int32).toInt (nar .char w5)) (5 : Int32).toInt (nar .char w5)) (6 : Int32).toInt (nar .char w5)) (7 : Int32).toInt (nar .char w5)) _ _ zi)
  show OwnWp p e below s _ _ _ (T30.setTop (mkF m 93 #[.val (.int p1), .val (.int p2), .val (.int p3), .val (.int p4), .val (.int w1), .val (.int w2), .val (.int w3), .val (.int w4), .val (.int w5), .unset, .unset] [(.ref ad12)]))
  refine OwnWp.step (U' := T30.setTop (mkF m 98 #[.val (.int p1), .val (.int p2), .val (.int p3), .val (.int p4), .val (.int w1), .val (.int w2), .val (.int w3), .val (.int w4), .val (.int w5), .unset, .unset] [(.int w5), (.int (9 : Int32)), (.ref ad12), (.ref ad12)])) (fun t k => ?_) ?_
  · show Steps p.tables e below (T30.setTop (mkF m 93 #[.val (.int p1), .val (.int p2), .val (.int p3), .val (.int p4), .val (.int w1), .val (.int w2), .val (.int w3), .val (.int w4), .val (.int w5), .unset, .unset] [(.ref ad12)])) _
    refine XS.dup X30.here hx rfl (hb hby at_93) rfl rfl ?_
    show Steps p.tables e below (T30.setTop (mkF m 94 #[.val (.int p1), .val (.int p2), .val (.int p3), .val (.int p4), .val (.int w1), .val (.int w2), .val (.int w3), .val (.int w4), .val (.int w5), .unset, .unset] [(.ref ad12), (.ref ad12)])) _
    refine XT.bipushV X30.here hx rfl (9 : Int32) (hb hby at_94) rfl ?_
    show Steps p.tables e below (T30.setTop (mkF m 96 #[.val (.int p1), .val (.int p2), .val (.int p3), .val (.int p4), .val (.int w1), .val (.int w2), .val (.int w3), .val (.int w4), .val (.int w5), .unset, .unset] [(.int (9 : Int32)), (.ref ad12), (.ref ad12)])) _
    refine XS.iload X30.here hx rfl (hb hby at_96) rfl ?_
    show Steps p.tables e below (T30.setTop (mkF m 98 #[.val (.int p1), .val (.int p2), .val (.int p3), .val (.int p4), .val (.int w1), .val (.int w2), .val (.int w3), .val (.int w4), .val (.int w5), .unset, .unset] [(.int w5), (.int (9 : Int32)), (.ref ad12), (.ref ad12)])) _
    exact k
  obtain ⟨T32, h32, L32, X32, e32, N32, K32, F32, st32⟩ := OwnA.stC X30 hx hZ e30 N30 b12 F31 (by decide) (by decide) (g := (mkF m 98 #[.val (.int p1), .val (.int p2), .val (.int p3), .val (.int p4), .val (.int w1), .val (.int w2), .val (.int w3), .val (.int w4), .val (.int w5), .unset, .unset] [(.int w5), (.int (9 : Int32)), (.ref ad12), (.ref ad12)])) rfl rfl (hb hby at_98)
  refine OwnWp.step st32 ?_
  have Z32 : n0 ≤ h32.size := Nat.le_trans Z30 K32.1
  have F33 : OwnA Z h32 ad12 .char (14 : Int32) (fun zi => .int ((ownUpd (ownUpd (ownUpd (ownUpd (ownUpd (ownUpd (ownUpd (ownUpd (ownUpd (ownUpd (fun _ => (0 : Int32)) (0 : Int32).toInt (nar .char w5)) (1 : Int32).toInt (nar .char w5)) (2 : Int32).toInt (nar .char w5)) (3 : Int32).toInt (nar .char w5)) (4 : Int32).toInt (nar .char w5)) (5 : Int32).toInt (nar .char w5)) (6 : Int32).toInt (nar .char w5)) (7 : Int32).toInt (nar .char w5)) (8 : Int32).toInt (nar .char w5)) (9 : Int32).toInt (nar .char w5)) zi)) := F32.congr (fun zi _ _ => by exact ownUpd_int (ownUpd (ownUpd (ownUpd (ownUpd (ownUpd (ownUpd (ownUpd (ownUpd (ownUpd (fun _ => (0 : Int32)) (0 : Int32).toInt (nar .char w5)) (1 : Int32).toInt (nar .char w5)) (2 : Int32).toInt (nar .char w5)) (3 : Int32).toInt (nar .char w5)) (4 : Int32).toInt (nar .char w5)) (5 : Int32).toInt (nar .char w5)) (6 : Int32).toInt (nar .char w5)) (7 : Int32).toInt (nar .char w5)) (8 : Int32).toInt (nar .char w5)) _ _ zi)
  show OwnWp p e below s _ _ _ (T32.setTop (mkF m 99 #[.val (.int p1), .val (.int p2), .val (.int p3), .val (.int p4), .val (.int w1), .val (.int w2), .val (.int w3), .val (.int w4), .val (.int w5), .unset, .unset] [(.ref ad12)]))
  refine OwnWp.step (U' := T32.setTop (mkF m 104 #[.val (.int p1), .val (.int p2), .val (.int p3), .val (.int p4), .val (.int w1), .val (.int w2), .val (.int w3), .val (.int w4), .val (.int w5), .unset, .unset] [(.int w5), (.int (10 : Int32)), (.ref ad12), (.ref ad12)])) (fun t k => ?_) ?_
  · show Steps p.tables e below (T32.setTop (mkF m 99 #[.val (.int p1), .val (.int p2), .val (.int p3), .val (.int p4), .val (.int w1), .val (.int w2), .val (.int w3), .val (.int w4), .val (.int w5), .unset, .unset] [(.ref ad12)])) _
    refine XS.dup X32.here hx rfl (hb hby at_99) rfl rfl ?_
    show Steps p.tables e below (T32.setTop (mkF m 100 #[.val (.int p1), .val (.int p2), .val (.int p3), .val (.int p4), .val (.int w1), .val (.int w2), .val (.int w3), .val (.int w4), .val (.int w5), .unset, .unset] [(.ref ad12), (.ref ad12)])) _
    refine XT.bipushV X32.here hx rfl (10 : Int32) (hb hby at_100) rfl ?_
    show Steps p.tables e below (T32.setTop (mkF m 102 #[.val (.int p1), .val (.int p2), .val (.int p3), .val (.int p4), .val (.int w1), .val (.int w2), .val (.int w3), .val (.int w4), .val (.int w5), .unset, .unset] [(.int (10 : Int32)), (.ref ad12), (.ref ad12)])) _
    refine XS.iload X32.here hx rfl (hb hby at_102) rfl ?_
    show Steps p.tables e below (T32.setTop (mkF m 104 #[.val (.int p1), .val (.int p2), .val (.int p3), .val (.int p4), .val (.int w1), .val (.int w2), .val (.int w3), .val (.int w4), .val (.int w5), .unset, .unset] [(.int w5), (.int (10 : Int32)), (.ref ad12), (.ref ad12)])) _
    exact k
  obtain ⟨T34, h34, L34, X34, e34, N34, K34, F34, st34⟩ := OwnA.stC X32 hx hZ e32 N32 b12 F33 (by decide) (by decide) (g := (mkF m 104 #[.val (.int p1), .val (.int p2), .val (.int p3), .val (.int p4), .val (.int w1), .val (.int w2), .val (.int w3), .val (.int w4), .val (.int w5), .unset, .unset] [(.int w5), (.int (10 : Int32)), (.ref ad12), (.ref ad12)])) rfl rfl (hb hby at_104)
  refine OwnWp.step st34 ?_
  have Z34 : n0 ≤ h34.size := Nat.le_trans Z32 K34.1
  have F35 : OwnA Z h34 ad12 .char (14 : Int32) (fun zi => .int ((ownUpd (ownUpd (ownUpd (ownUpd (ownUpd (ownUpd (ownUpd (ownUpd (ownUpd (ownUpd (ownUpd (fun _ => (0 : Int32)) (0 : Int32).toInt (nar .char w5)) (1 : Int32).toInt (nar .char w5)) (2 : Int32).toInt (nar .char w5)) (3 : Int32).toInt (nar .char w5)) (4 : Int32).toInt (nar .char w5)) (5 : Int32).toInt (nar .char w5)) (6 : Int32).toInt (nar .char w5)) (7 : Int32).toInt (nar .char w5)) (8 : Int32).toInt (nar .char w5)) (9 : Int32).toInt (nar .char w5)) (10 : Int32).toInt (nar .char w5)) zi)) := F34.congr (fun zi _ _ => by exact ownUpd_int (ownUpd (ownUpd (ownUpd (ownUpd (ownUpd (ownUpd (ownUpd (ownUpd (ownUpd (ownUpd (fun _ => (0 : Int32)) (0 : Int32).toInt (nar .char w5)) (1 : Int32).toInt (nar .char w5)) (2 : Int32).toInt (nar .char w5)) (3 : Int32).toInt (nar .char w5)) (4 : Int32).toInt (nar .char w5)) (5 : Int32).toInt (nar .char w5)) (6 : Int32).toInt (nar .char w5)) (7 : Int32).toInt (nar .char w5)) (8 : Int32).toInt (nar .char w5)) (9 : Int32).toInt (nar .char w5)) _ _ zi)
  show OwnWp p e below s _ _ _ (T34.setTop (mkF m 105 #[.val (.int p1), .val (.int p2), .val (.int p3), .val (.int p4), .val (.int w1), .val (.int w2), .val (.int w3), .val (.int w4), .val (.int w5), .unset, .unset] [(.ref ad12)]))
  refine OwnWp.step (U' := T34.setTop (mkF m 110 #[.val (.int p1), .val (.int p2), .val (.int p3), .val (.int p4), .val (.int w1), .val (.int w2), .val (.int w3), .val (.int w4), .val (.int w5), .unset, .unset] [(.int w5), (.int (11 : Int32)), (.ref ad12), (.ref ad12)])) (fun t k => ?_) ?_
  · show Steps p.tables e below (T34.setTop (mkF m 105 #[.val (.int p1), .val (.int p2), .val (.int p3), .val (.int p4), .val (.int w1), .val (.int w2), .val (.int w3), .val (.int w4), .val (.int w5), .unset, .unset] [(.ref ad12)])) _
    refine XS.dup X34.here hx rfl (hb hby at_105) rfl rfl ?_
    show Steps p.tables e below (T34.setTop (mkF m 106 #[.val (.int p1), .val (.int p2), .val (.int p3), .val (.int p4), .val (.int w1), .val (.int w2), .val (.int w3), .val (.int w4), .val (.int w5), .unset, .unset] [(.ref ad12), (.ref ad12)])) _
    refine XT.bipushV X34.here hx rfl (11 : Int32) (hb hby at_106) rfl ?_
    show Steps p.tables e below (T34.setTop (mkF m 108 #[.val (.int p1), .val (.int p2), .val (.int p3), .val (.int p4), .val (.int w1), .val (.int w2), .val (.int w3), .val (.int w4), .val (.int w5), .unset, .unset] [(.int (11 : Int32)), (.ref ad12), (.ref ad12)])) _
    refine XS.iload X34.here hx rfl (hb hby at_108) rfl ?_
    show Steps p.tables e below (T34.setTop (mkF m 110 #[.val (.int p1), .val (.int p2), .val (.int p3), .val (.int p4), .val (.int w1), .val (.int w2), .val (.int w3), .val (.int w4), .val (.int w5), .unset, .unset] [(.int w5), (.int (11 : Int32)), (.ref ad12), (.ref ad12)])) _
    exact k
  obtain ⟨T36, h36, L36, X36, e36, N36, K36, F36, st36⟩ := OwnA.stC X34 hx hZ e34 N34 b12 F35 (by decide) (by decide) (g := (mkF m 110 #[.val (.int p1), .val (.int p2), .val (.int p3), .val (.int p4), .val (.int w1), .val (.int w2), .val (.int w3), .val (.int w4), .val (.int w5), .unset, .unset] [(.int w5), (.int (11 : Int32)), (.ref ad12), (.ref ad12)])) rfl rfl (hb hby at_110)
  refine OwnWp.step st36 ?_
  have Z36 : n0 ≤ h36.size := Nat.le_trans Z34 K36.1
  have F37 : OwnA Z h36 ad12 .char (14 : Int32) (fun zi => .int ((ownUpd (ownUpd (ownUpd (ownUpd (ownUpd (ownUpd (ownUpd (ownUpd (ownUpd (ownUpd (ownUpd (ownUpd (fun _ => (0 : Int32)) (0 : Int32).toInt (nar .char w5)) (1 : Int32).toInt (nar .char w5)) (2 : Int32).toInt (nar .char w5)) (3 : Int32).toInt (nar .char w5)) (4 : Int32).toInt (nar .char w5)) (5 : Int32).toInt (nar .char w5)) (6 : Int32).toInt (nar .char w5)) (7 : Int32).toInt (nar .char w5)) (8 : Int32).toInt (nar .char w5)) (9 : Int32).toInt (nar .char w5)) (10 : Int32).toInt (nar .char w5)) (11 : Int32).toInt (nar .char w5)) zi)) := F36.congr (fun zi _ _ => by exact ownUpd_int (ownUpd (ownUpd (ownUpd (ownUpd (ownUpd (ownUpd (ownUpd (ownUpd (ownUpd (ownUpd (ownUpd (fun _ => (0 : Int32)) (0 : Int32).toInt (nar .char w5)) (1 : Int32).toInt (nar .char w5)) (2 : Int32).toInt (nar .char w5)) (3 : Int32).toInt (nar .char w5)) (4 : Int32).toInt (nar .char w5)) (5 : Int32).toInt (nar .char w5)) (6 : Int32).toInt (nar .char w5)) (7 : Int32).toInt (nar .char w5)) (8 : Int32).toInt (nar .char w5)) (9 : Int32).toInt (nar .char w5)) (10 : Int32).toInt (nar .char w5)) _ _ zi)
  show OwnWp p e below s _ _ _ (T36.setTop (mkF m 111 #[.val (.int p1), .val (.int p2), .val (.int p3), .val (.int p4), .val (.int w1), .val (.int w2), .val (.int w3), .val (.int w4), .val (.int w5), .unset, .unset] [(.ref ad12)]))
  refine OwnWp.step (U' := T36.setTop (mkF m 116 #[.val (.int p1), .val (.int p2), .val (.int p3), .val (.int p4), .val (.int w1), .val (.int w2), .val (.int w3), .val (.int w4), .val (.int w5), .unset, .unset] [(.int w5), (.int (12 : Int32)), (.ref ad12), (.ref ad12)])) (fun t k => ?_) ?_
  · show Steps p.tables e below (T36.setTop (mkF m 111 #[.val (.int p1), .val (.int p2), .val (.int p3), .val (.int p4), .val (.int w1), .val (.int w2), .val (.int w3), .val (.int w4), .val (.int w5), .unset, .unset] [(.ref ad12)])) _
    refine XS.dup X36.here hx rfl (hb hby at_111) rfl rfl ?_
    show Steps p.tables e below (T36.setTop (mkF m 112 #[.val (.int p1), .val (.int p2), .val (.int p3), .val (.int p4), .val (.int w1), .val (.int w2), .val (.int w3), .val (.int w4), .val (.int w5), .unset, .unset] [(.ref ad12), (.ref ad12)])) _
    refine XT.bipushV X36.here hx rfl (12 : Int32) (hb hby at_112) rfl ?_
    show Steps p.tables e below (T36.setTop (mkF m 114 #[.val (.int p1), .val (.int p2), .val (.int p3), .val (.int p4), .val (.int w1), .val (.int w2), .val (.int w3), .val (.int w4), .val (.int w5), .unset, .unset] [(.int (12 : Int32)), (.ref ad12), (.ref ad12)])) _
    refine XS.iload X36.here hx rfl (hb hby at_114) rfl ?_
    show Steps p.tables e below (T36.setTop (mkF m 116 #[.val (.int p1), .val (.int p2), .val (.int p3), .val (.int p4), .val (.int w1), .val (.int w2), .val (.int w3), .val (.int w4), .val (.int w5), .unset, .unset] [(.int w5), (.int (12 : Int32)), (.ref ad12), (.ref ad12)])) _
    exact k
  obtain ⟨T38, h38, L38, X38, e38, N38, K38, F38, st38⟩ := OwnA.stC X36 hx hZ e36 N36 b12 F37 (by decide) (by decide) (g := (mkF m 116 #[.val (.int p1), .val (.int p2), .val (.int p3), .val (.int p4), .val (.int w1), .val (.int w2), .val (.int w3), .val (.int w4), .val (.int w5), .unset, .unset] [(.int w5), (.int (12 : Int32)), (.ref ad12), (.ref ad12)])) rfl rfl (hb hby at_116)
  refine OwnWp.step st38 ?_
  have Z38 : n0 ≤ h38.size := Nat.le_trans Z36 K38.1
  have F39 : OwnA Z h38 ad12 .char (14 : Int32) (fun zi => .int ((ownUpd (ownUpd (ownUpd (ownUpd (ownUpd (ownUpd (ownUpd (ownUpd (ownUpd (ownUpd (ownUpd (ownUpd (ownUpd (fun _ => (0 : Int32)) (0 : Int32).toInt (nar .char w5)) (1 : Int32).toInt (nar .char w5)) (2 : Int32).toInt (nar .char w5)) (3 : Int32).toInt (nar .char w5)) (4 : Int32).toInt (nar .char w5)) (5 : Int32).toInt (nar .char w5)) (6 : Int32).toInt (nar .char w5)) (7 : Int32).toInt (nar .char w5)) (8 : Int32).toInt (nar .char w5)) (9 : Int32).toInt (nar .char w5)) (10 : Int32).toInt (nar .char w5)) (11 : Int32).toInt (nar .char w5)) (12 : Int32).toInt (nar .char w5)) zi)) := F38.congr (fun zi _ _ => by exact ownUpd_int (ownUpd (ownUpd (ownUpd (ownUpd (ownUpd (ownUpd (ownUpd (ownUpd (ownUpd (ownUpd (ownUpd (ownUpd (fun _ => (0 : Int32)) (0 : Int32).toInt (nar .char w5)) (1 : Int32).toInt (nar .char w5)) (2 : Int32).toInt (nar .char w5)) (3 : Int32).toInt (nar .char w5)) (4 : Int32).toInt (nar .char w5)) (5 : Int32).toInt (nar .char w5)) (6 : Int32).toInt (nar .char w5)) (7 : Int32).toInt (nar .char w5)) (8 : Int32).toInt (nar .char w5)) (9 : Int32).toInt (nar .char w5)) (10 : Int32).toInt (nar .char w5)) (11 : Int32).toInt (nar .char w5)) _ _ zi)
  show OwnWp p e below s _ _ _ (T38.setTop (mkF m 117 #[.val (.int p1), .val (.int p2), .val (.int p3), .val (.int p4), .val (.int w1), .val (.int w2), .val (.int w3), .val (.int w4), .val (.int w5), .unset, .unset] [(.ref ad12)]))
  refine OwnWp.step (U' := T38.setTop (mkF m 122 #[.val (.int p1), .val (.int p2), .val (.int p3), .val (.int p4), .val (.int w1), .val (.int w2), .val (.int w3), .val (.int w4), .val (.int w5), .unset, .unset] [(.int w5), (.int (13 : Int32)), (.ref ad12), (.ref ad12)])) (fun t k => ?_) ?_
  · show Steps p.tables e below (T38.setTop (mkF m 117 #[.val (.int p1), .val (.int p2), .val (.int p3), .val (.int p4), .val (.int w1), .val (.int w2), .val (.int w3), .val (.int w4), .val (.int w5), .unset, .unset] [(.ref ad12)])) _
    refine XS.dup X38.here hx rfl (hb hby at_117) rfl rfl ?_
    show Steps p.tables e below (T38.setTop (mkF m 118 #[.val (.int p1), .val (.int p2), .val (.int p3), .val (.int p4), .val (.int w1), .val (.int w2), .val (.int w3), .val (.int w4), .val (.int w5), .unset, .unset] [(.ref ad12), (.ref ad12)])) _
    refine XT.bipushV X38.here hx rfl (13 : Int32) (hb hby at_118) rfl ?_
    show Steps p.tables e below (T38.setTop (mkF m 120 #[.val (.int p1), .val (.int p2), .val (.int p3), .val (.int p4), .val (.int w1), .val (.int w2), .val (.int w3), .val (.int w4), .val (.int w5), .unset, .unset] [(.int (13 : Int32)), (.ref ad12), (.ref ad12)])) _
    refine XS.iload X38.here hx rfl (hb hby at_120) rfl ?_
    show Steps p.tables e below (T38.setTop (mkF m 122 #[.val (.int p1), .val (.int p2), .val (.int p3), .val (.int p4), .val (.int w1), .val (.int w2), .val (.int w3), .val (.int w4), .val (.int w5), .unset, .unset] [(.int w5), (.int (13 : Int32)), (.ref ad12), (.ref ad12)])) _
    exact k
  obtain ⟨T40, h40, L40, X40, e40, N40, K40, F40, st40⟩ := OwnA.stC X38 hx hZ e38 N38 b12 F39 (by decide) (by decide) (g := (mkF m 122 #[.val (.int p1), .val (.int p2), .val (.int p3), .val (.int p4), .val (.int w1), .val (.int w2), .val (.int w3), .val (.int w4), .val (.int w5), .unset, .unset] [(.int w5), (.int (13 : Int32)), (.ref ad12), (.ref ad12)])) rfl rfl (hb hby at_122)
  refine OwnWp.step st40 ?_
  have Z40 : n0 ≤ h40.size := Nat.le_trans Z38 K40.1
  have F41 : OwnA Z h40 ad12 .char (14 : Int32) (fun zi => .int ((ownUpd (ownUpd (ownUpd (ownUpd (ownUpd (ownUpd (ownUpd (ownUpd (ownUpd (ownUpd (ownUpd (ownUpd (ownUpd (ownUpd (fun _ => (0 : Int32)) (0 : Int32).toInt (nar .char w5)) (1 : Int32).toInt (nar .char w5)) (2 : Int32).toInt (nar .char w5)) (3 : Int32).toInt (nar .char w5)) (4 : Int32).toInt (nar .char w5)) (5 : Int32).toInt (nar .char w5)) (6 : Int32).toInt (nar .char w5)) (7 : Int32).toInt (nar .char w5)) (8 : Int32).toInt (nar .char w5)) (9 : Int32).toInt (nar .char w5)) (10 : Int32).toInt (nar .char w5)) (11 : Int32).toInt (nar .char w5)) (12 : Int32).toInt (nar .char w5)) (13 : Int32).toInt (nar .char w5)) zi)) := F40.congr (fun zi _ _ => by exact ownUpd_int (ownUpd (ownUpd (ownUpd (ownUpd (ownUpd (ownUpd (ownUpd (ownUpd (ownUpd (ownUpd (ownUpd (ownUpd (ownUpd (fun _ => (0 : Int32)) (0 : Int32).toInt (nar .char w5)) (1 : Int32).toInt (nar .char w5)) (2 : Int32).toInt (nar .char w5)) (3 : Int32).toInt (nar .char w5)) (4 : Int32).toInt (nar .char w5)) (5 : Int32).toInt (nar .char w5)) (6 : Int32).toInt (nar .char w5)) (7 : Int32).toInt (nar .char w5)) (8 : Int32).toInt (nar .char w5)) (9 : Int32).toInt (nar .char w5)) (10 : Int32).toInt (nar .char w5)) (11 : Int32).toInt (nar .char w5)) (12 : Int32).toInt (nar .char w5)) _ _ zi)
  show OwnWp p e below s _ _ _ (T40.setTop (mkF m 123 #[.val (.int p1), .val (.int p2), .val (.int p3), .val (.int p4), .val (.int w1), .val (.int w2), .val (.int w3), .val (.int w4), .val (.int w5), .unset, .unset] [(.ref ad12)]))
  have hch : nar .char w5 = w5 := by rw [qw5]; simp only [nar, UInt32.toUInt32_toInt32, UInt16.toUInt16_toUInt32]
  have FC : OwnA Z h40 ad12 .char (14 : Int32) (fun i => .int ((fun _ => w5) i)) := OwnA.congr F41 (own_fillC w5 hch)
  refine OwnWp.step (U' := T40.setTop (mkF m 127 #[.val (.int p1), .val (.int p2), .val (.int p3), .val (.int p4), .val (.int w1), .val (.int w2), .val (.int w3), .val (.int w4), .val (.int w5), .val (.ref ad12), .unset] [(.int (12 : Int32))])) (fun t k => ?_) ?_
  · show Steps p.tables e below (T40.setTop (mkF m 123 #[.val (.int p1), .val (.int p2), .val (.int p3), .val (.int p4), .val (.int w1), .val (.int w2), .val (.int w3), .val (.int w4), .val (.int w5), .unset, .unset] [(.ref ad12)])) _
    refine XS.astore X40.here hx rfl (hb hby at_123) rfl rfl (l' := #[.val (.int p1), .val (.int p2), .val (.int p3), .val (.int p4), .val (.int w1), .val (.int w2), .val (.int w3), .val (.int w4), .val (.int w5), .val (.ref ad12), .unset]) rfl ?_
    show Steps p.tables e below (T40.setTop (mkF m 125 #[.val (.int p1), .val (.int p2), .val (.int p3), .val (.int p4), .val (.int w1), .val (.int w2), .val (.int w3), .val (.int w4), .val (.int w5), .val (.ref ad12), .unset] [])) _
    refine XT.bipushV X40.here hx rfl (12 : Int32) (hb hby at_125) rfl ?_
    show Steps p.tables e below (T40.setTop (mkF m 127 #[.val (.int p1), .val (.int p2), .val (.int p3), .val (.int p4), .val (.int w1), .val (.int w2), .val (.int w3), .val (.int w4), .val (.int w5), .val (.ref ad12), .unset] [(.int (12 : Int32))])) _
    exact k
  obtain ⟨T42, h42, cA42, X42, e42, E42, Ar42, st42⟩ := newP X40 hx hZ (aty := .long) (hw _ (List.mem_of_getElem? (i := 3) rfl)) e40 (g := (mkF m 127 #[.val (.int p1), .val (.int p2), .val (.int p3), .val (.int p4), .val (.int w1), .val (.int w2), .val (.int w3), .val (.int w4), .val (.int w5), .val (.ref ad12), .unset] [(.int (12 : Int32))])) rfl (hb hby at_127) rfl (by decide) (cap := 12) (by decide) (by decide) (by decide) (by decide)
  obtain ⟨ad42, ga42⟩ : ∃ z, z = h40.size := ⟨_, rfl⟩
  rw [← ga42] at Ar42 st42
  refine OwnWp.step st42 ?_
  have ne42_43 : ad12 ≠ ad42 := Nat.ne_of_lt (by rw [ga42]; exact FC.lt)
  have Z42 : n0 ≤ h42.size := Nat.le_trans Z40 E42.1
  have b42 : n0 ≤ ad42 := Nat.le_trans Z40 (Nat.le_of_eq ga42.symm)
  have f44 := OwnA.ext FC E42
  have F45 : OwnA Z h42 ad42 .long (12 : Int32) (fun _ => (.long (0 : Int64))) := OwnA.new Ar42 (by decide)
  show OwnWp p e below s _ _ _ (T42.setTop (mkF m 129 #[.val (.int p1), .val (.int p2), .val (.int p3), .val (.int p4), .val (.int w1), .val (.int w2), .val (.int w3), .val (.int w4), .val (.int w5), .val (.ref ad12), .unset] [(.ref ad42)]))
  refine OwnWp.step (U' := T42.setTop (mkF m 132 #[.val (.int p1), .val (.int p2), .val (.int p3), .val (.int p4), .val (.int w1), .val (.int w2), .val (.int w3), .val (.int w4), .val (.int w5), .val (.ref ad12), .unset] [(.long (1 : Int64)), (.int (0 : Int32)), (.ref ad42), (.ref ad42)])) (fun t k => ?_) ?_
  · show Steps p.tables e below (T42.setTop (mkF m 129 #[.val (.int p1), .val (.int p2), .val (.int p3), .val (.int p4), .val (.int w1), .val (.int w2), .val (.int w3), .val (.int w4), .val (.int w5), .val (.ref ad12), .unset] [(.ref ad42)])) _
    refine XS.dup X42.here hx rfl (hb hby at_129) rfl rfl ?_
    show Steps p.tables e below (T42.setTop (mkF m 130 #[.val (.int p1), .val (.int p2), .val (.int p3), .val (.int p4), .val (.int w1), .val (.int w2), .val (.int w3), .val (.int w4), .val (.int w5), .val (.ref ad12), .unset] [(.ref ad42), (.ref ad42)])) _
    refine XT.iconstV X42.here hx rfl (0 : Int32) (hb hby at_130) rfl ?_
    show Steps p.tables e below (T42.setTop (mkF m 131 #[.val (.int p1), .val (.int p2), .val (.int p3), .val (.int p4), .val (.int w1), .val (.int w2), .val (.int w3), .val (.int w4), .val (.int w5), .val (.ref ad12), .unset] [(.int (0 : Int32)), (.ref ad42), (.ref ad42)])) _
    refine XT.lconstV X42.here hx rfl (1 : Int64) (hb hby at_131) rfl ?_
    show Steps p.tables e below (T42.setTop (mkF m 132 #[.val (.int p1), .val (.int p2), .val (.int p3), .val (.int p4), .val (.int w1), .val (.int w2), .val (.int w3), .val (.int w4), .val (.int w5), .val (.ref ad12), .unset] [(.long (1 : Int64)), (.int (0 : Int32)), (.ref ad42), (.ref ad42)])) _
    exact k
  obtain ⟨T46, h46, L46, X46, e46, N46, K46, F46, st46⟩ := OwnA.stJ X42 hx hZ e42 N40 b42 F45 (by decide) (by decide) (g := (mkF m 132 #[.val (.int p1), .val (.int p2), .val (.int p3), .val (.int p4), .val (.int w1), .val (.int w2), .val (.int w3), .val (.int w4), .val (.int w5), .val (.ref ad12), .unset] [(.long (1 : Int64)), (.int (0 : Int32)), (.ref ad42), (.ref ad42)])) rfl rfl (hb hby at_132)
  refine OwnWp.step st46 ?_
  have Z46 : n0 ≤ h46.size := Nat.le_trans Z42 K46.1
  have f47 := OwnA.keep f44 K46 (ninS ne42_43 nin0)
  have F48 : OwnA Z h46 ad42 .long (12 : Int32) (fun zi => .long ((ownUpd (fun _ => (0 : Int64)) (0 : Int32).toInt (1 : Int64)) zi)) := F46.congr (fun zi _ _ => by exact ownUpd_long (fun _ => (0 : Int64)) _ _ zi)
  show OwnWp p e below s _ _ _ (T46.setTop (mkF m 133 #[.val (.int p1), .val (.int p2), .val (.int p3), .val (.int p4), .val (.int w1), .val (.int w2), .val (.int w3), .val (.int w4), .val (.int w5), .val (.ref ad12), .unset] [(.ref ad42)]))
  refine OwnWp.step (U' := T46.setTop (mkF m 138 #[.val (.int p1), .val (.int p2), .val (.int p3), .val (.int p4), .val (.int w1), .val (.int w2), .val (.int w3), .val (.int w4), .val (.int w5), .val (.ref ad12), .unset] [(.long (10 : Int64)), (.int (1 : Int32)), (.ref ad42), (.ref ad42)])) (fun t k => ?_) ?_
  · show Steps p.tables e below (T46.setTop (mkF m 133 #[.val (.int p1), .val (.int p2), .val (.int p3), .val (.int p4), .val (.int w1), .val (.int w2), .val (.int w3), .val (.int w4), .val (.int w5), .val (.ref ad12), .unset] [(.ref ad42)])) _
    refine XS.dup X46.here hx rfl (hb hby at_133) rfl rfl ?_
    show Steps p.tables e below (T46.setTop (mkF m 134 #[.val (.int p1), .val (.int p2), .val (.int p3), .val (.int p4), .val (.int w1), .val (.int w2), .val (.int w3), .val (.int w4), .val (.int w5), .val (.ref ad12), .unset] [(.ref ad42), (.ref ad42)])) _
    refine XT.iconstV X46.here hx rfl (1 : Int32) (hb hby at_134) rfl ?_
    show Steps p.tables e below (T46.setTop (mkF m 135 #[.val (.int p1), .val (.int p2), .val (.int p3), .val (.int p4), .val (.int w1), .val (.int w2), .val (.int w3), .val (.int w4), .val (.int w5), .val (.ref ad12), .unset] [(.int (1 : Int32)), (.ref ad42), (.ref ad42)])) _
    refine X46.ldc2J hx hown (mvT hZ (hw _ (List.mem_of_getElem? (i := 4) rfl))) rfl (hb hby at_135) ?_
    show Steps p.tables e below (T46.setTop (mkF m 138 #[.val (.int p1), .val (.int p2), .val (.int p3), .val (.int p4), .val (.int w1), .val (.int w2), .val (.int w3), .val (.int w4), .val (.int w5), .val (.ref ad12), .unset] [(.long (10 : Int64)), (.int (1 : Int32)), (.ref ad42), (.ref ad42)])) _
    exact k
  obtain ⟨T49, h49, L49, X49, e49, N49, K49, F49, st49⟩ := OwnA.stJ X46 hx hZ e46 N46 b42 F48 (by decide) (by decide) (g := (mkF m 138 #[.val (.int p1), .val (.int p2), .val (.int p3), .val (.int p4), .val (.int w1), .val (.int w2), .val (.int w3), .val (.int w4), .val (.int w5), .val (.ref ad12), .unset] [(.long (10 : Int64)), (.int (1 : Int32)), (.ref ad42), (.ref ad42)])) rfl rfl (hb hby at_138)
  refine OwnWp.step st49 ?_
  have Z49 : n0 ≤ h49.size := Nat.le_trans Z46 K49.1
  have f50 := OwnA.keep f47 K49 (ninS ne42_43 nin0)
  have F51 : OwnA Z h49 ad42 .long (12 : Int32) (fun zi => .long ((ownUpd (ownUpd (fun _ => (0 : Int64)) (0 : Int32).toInt (1 : Int64)) (1 : Int32).toInt (10 : Int64)) zi)) := F49.congr (fun zi _ _ => by exact ownUpd_long (ownUpd (fun _ => (0 : Int64)) (0 : Int32).toInt (1 : Int64)) _ _ zi)
  show OwnWp p e below s _ _ _ (T49.setTop (mkF m 139 #[.val (.int p1), .val (.int p2), .val (.int p3), .val (.int p4), .val (.int w1), .val (.int w2), .val (.int w3), .val (.int w4), .val (.int w5), .val (.ref ad12), .unset] [(.ref ad42)]))
  refine OwnWp.step (U' := T49.setTop (mkF m 144 #[.val (.int p1), .val (.int p2), .val (.int p3), .val (.int p4), .val (.int w1), .val (.int w2), .val (.int w3), .val (.int w4), .val (.int w5), .val (.ref ad12), .unset] [(.long (100 : Int64)), (.int (2 : Int32)), (.ref ad42), (.ref ad42)])) (fun t k => ?_) ?_
  · show Steps p.tables e below (T49.setTop (mkF m 139 #[.val (.int p1), .val (.int p2), .val (.int p3), .val (.int p4), .val (.int w1), .val (.int w2), .val (.int w3), .val (.int w4), .val (.int w5), .val (.ref ad12), .unset] [(.ref ad42)])) _
    refine XS.dup X49.here hx rfl (hb hby at_139) rfl rfl ?_
    show Steps p.tables e below (T49.setTop (mkF m 140 #[.val (.int p1), .val (.int p2), .val (.int p3), .val (.int p4), .val (.int w1), .val (.int w2), .val (.int w3), .val (.int w4), .val (.int w5), .val (.ref ad12), .unset] [(.ref ad42), (.ref ad42)])) _
    refine XT.iconstV X49.here hx rfl (2 : Int32) (hb hby at_140) rfl ?_
    show Steps p.tables e below (T49.setTop (mkF m 141 #[.val (.int p1), .val (.int p2), .val (.int p3), .val (.int p4), .val (.int w1), .val (.int w2), .val (.int w3), .val (.int w4), .val (.int w5), .val (.ref ad12), .unset] [(.int (2 : Int32)), (.ref ad42), (.ref ad42)])) _
    refine X49.ldc2J hx hown (mvT hZ (hw _ (List.mem_of_getElem? (i := 5) rfl))) rfl (hb hby at_141) ?_
    show Steps p.tables e below (T49.setTop (mkF m 144 #[.val (.int p1), .val (.int p2), .val (.int p3), .val (.int p4), .val (.int w1), .val (.int w2), .val (.int w3), .val (.int w4), .val (.int w5), .val (.ref ad12), .unset] [(.long (100 : Int64)), (.int (2 : Int32)), (.ref ad42), (.ref ad42)])) _
    exact k
  obtain ⟨T52, h52, L52, X52, e52, N52, K52, F52, st52⟩ := OwnA.stJ X49 hx hZ e49 N49 b42 F51 (by decide) (by decide) (g := (mkF m 144 #[.val (.int p1), .val (.int p2), .val (.int p3), .val (.int p4), .val (.int w1), .val (.int w2), .val (.int w3), .val (.int w4), .val (.int w5), .val (.ref ad12), .unset] [(.long (100 : Int64)), (.int (2 : Int32)), (.ref ad42), (.ref ad42)])) rfl rfl (hb hby at_144)
  refine OwnWp.step st52 ?_
  have Z52 : n0 ≤ h52.size := Nat.le_trans Z49 K52.1
  have f53 := OwnA.keep f50 K52 (ninS ne42_43 nin0)
  have F54 : OwnA Z h52 ad42 .long (12 : Int32) (fun zi => .long ((ownUpd (ownUpd (ownUpd (fun _ => (0 : Int64)) (0 : Int32).toInt (1 : Int64)) (1 : Int32).toInt (10 : Int64)) (2 : Int32).toInt (100 : Int64)) zi)) := F52.congr (fun zi _ _ => by exact ownUpd_long (ownUpd (ownUpd (fun _ => (0 : Int64)) (0 : Int32).toInt (1 : Int64)) (1 : Int32).toInt (10 : Int64)) _ _ zi)
  show OwnWp p e below s _ _ _ (T52.setTop (mkF m 145 #[.val (.int p1), .val (.int p2), .val (.int p3), .val (.int p4), .val (.int w1), .val (.int w2), .val (.int w3), .val (.int w4), .val (.int w5), .val (.ref ad12), .unset] [(.ref ad42)]))
  refine OwnWp.step (U' := T52.setTop (mkF m 150 #[.val (.int p1), .val (.int p2), .val (.int p3), .val (.int p4), .val (.int w1), .val (.int w2), .val (.int w3), .val (.int w4), .val (.int w5), .val (.ref ad12), .unset] [(.long (1000 : Int64)), (.int (3 : Int32)), (.ref ad42), (.ref ad42)])) (fun t k => ?_) ?_
  · show Steps p.tables e below (T52.setTop (mkF m 145 #[.val (.int p1), .val (.int p2), .val (.int p3), .val (.int p4), .val (.int w1), .val (.int w2), .val (.int w3), .val (.int w4), .val (.int w5), .val (.ref ad12), .unset] [(.ref ad42)])) _
    refine XS.dup X52.here hx rfl (hb hby at_145) rfl rfl ?_
    show Steps p.tables e below (T52.setTop (mkF m 146 #[.val (.int p1), .val (.int p2), .val (.int p3), .val (.int p4), .val (.int w1), .val (.int w2), .val (.int w3), .val (.int w4), .val (.int w5), .val (.ref ad12), .unset] [(.ref ad42), (.ref ad42)])) _
    refine XT.iconstV X52.here hx rfl (3 : Int32) (hb hby at_146) rfl ?_
    show Steps p.tables e below (T52.setTop (mkF m 147 #[.val (.int p1), .val (.int p2), .val (.int p3), .val (.int p4), .val (.int w1), .val (.int w2), .val (.int w3), .val (.int w4), .val (.int w5), .val (.ref ad12), .unset] [(.int (3 : Int32)), (.ref ad42), (.ref ad42)])) _
    refine X52.ldc2J hx hown (mvT hZ (hw _ (List.mem_of_getElem? (i := 6) rfl))) rfl (hb hby at_147) ?_
    show Steps p.tables e below (T52.setTop (mkF m 150 #[.val (.int p1), .val (.int p2), .val (.int p3), .val (.int p4), .val (.int w1), .val (.int w2), .val (.int w3), .val (.int w4), .val (.int w5), .val (.ref ad12), .unset] [(.long (1000 : Int64)), (.int (3 : Int32)), (.ref ad42), (.ref ad42)])) _
    exact k
  obtain ⟨T55, h55, L55, X55, e55, N55, K55, F55, st55⟩ := OwnA.stJ X52 hx hZ e52 N52 b42 F54 (by decide) (by decide) (g := (mkF m 150 #[.val (.int p1), .val (.int p2), .val (.int p3), .val (.int p4), .val (.int w1), .val (.int w2), .val (.int w3), .val (.int w4), .val (.int w5), .val (.ref ad12), .unset] [(.long (1000 : Int64)), (.int (3 : Int32)), (.ref ad42), (.ref ad42)])) rfl rfl (hb hby at_150)
  refine OwnWp.step st55 ?_
  have Z55 : n0 ≤ h55.size := Nat.le_trans Z52 K55.1
  have f56 := OwnA.keep f53 K55 (ninS ne42_43 nin0)
  have F57 : OwnA Z h55 ad42 .long (12 : Int32) (fun zi => .long ((ownUpd (ownUpd (ownUpd (ownUpd (fun _ => (0 : Int64)) (0 : Int32).toInt (1 : Int64)) (1 : Int32).toInt (10 : Int64)) (2 : Int32).toInt (100 : Int64)) (3 : Int32).toInt (1000 : Int64)) zi)) := F55.congr (fun zi _ _ => by exact ownUpd_long (ownUpd (ownUpd (ownUpd (fun _ => (0 : Int64)) (0 : Int32).toInt (1 : Int64)) (1 : Int32).toInt (10 : Int64)) (2 : Int32).toInt (100 : Int64)) _ _ zi)
  show OwnWp p e below s _ _ _ (T55.setTop (mkF m 151 #[.val (.int p1), .val (.int p2), .val (.int p3), .val (.int p4), .val (.int w1), .val (.int w2), .val (.int w3), .val (.int w4), .val (.int w5), .val (.ref ad12), .unset] [(.ref ad42)]))
  refine OwnWp.step (U' := T55.setTop (mkF m 156 #[.val (.int p1), .val (.int p2), .val (.int p3), .val (.int p4), .val (.int w1), .val (.int w2), .val (.int w3), .val (.int w4), .val (.int w5), .val (.ref ad12), .unset] [(.long (10000 : Int64)), (.int (4 : Int32)), (.ref ad42), (.ref ad42)])) (fun t k => ?_) ?_
  · show Steps p.tables e below (T55.setTop (mkF m 151 #[.val (.int p1), .val (.int p2), .val (.int p3), .val (.int p4), .val (.int w1), .val (.int w2), .val (.int w3), .val (.int w4), .val (.int w5), .val (.ref ad12), .unset] [(.ref ad42)])) _
    refine XS.dup X55.here hx rfl (hb hby at_151) rfl rfl ?_
    show Steps p.tables e below (T55.setTop (mkF m 152 #[.val (.int p1), .val (.int p2), .val (.int p3), .val (.int p4), .val (.int w1), .val (.int w2), .val (.int w3), .val (.int w4), .val (.int w5), .val (.ref ad12), .unset] [(.ref ad42), (.ref ad42)])) _
    refine XT.iconstV X55.here hx rfl (4 : Int32) (hb hby at_152) rfl ?_
    show Steps p.tables e below (T55.setTop (mkF m 153 #[.val (.int p1), .val (.int p2), .val (.int p3), .val (.int p4), .val (.int w1), .val (.int w2), .val (.int w3), .val (.int w4), .val (.int w5), .val (.ref ad12), .unset] [(.int (4 : Int32)), (.ref ad42), (.ref ad42)])) _
    refine X55.ldc2J hx hown (mvT hZ (hw _ (List.mem_of_getElem? (i := 7) rfl))) rfl (hb hby at_153) ?_
    show Steps p.tables e below (T55.setTop (mkF m 156 #[.val (.int p1), .val (.int p2), .val (.int p3), .val (.int p4), .val (.int w1), .val (.int w2), .val (.int w3), .val (.int w4), .val (.int w5), .val (.ref ad12), .unset] [(.long (10000 : Int64)), (.int (4 : Int32)), (.ref ad42), (.ref ad42)])) _
    exact k
  obtain ⟨T58, h58, L58, X58, e58, N58, K58, F58, st58⟩ := OwnA.stJ X55 hx hZ e55 N55 b42 F57 (by decide) (by decide) (g := (mkF m 156 #[.val (.int p1), .val (.int p2), .val (.int p3), .val (.int p4), .val (.int w1), .val (.int w2), .val (.int w3), .val (.int w4), .val (.int w5), .val (.ref ad12), .unset] [(.long (10000 : Int64)), (.int (4 : Int32)), (.ref ad42), (.ref ad42)])) rfl rfl (hb hby at_156)
  refine OwnWp.step st58 ?_
  have Z58 : n0 ≤ h58.size := Nat.le_trans Z55 K58.1
  have f59 := OwnA.keep f56 K58 (ninS ne42_43 nin0)
  have F60 : OwnA Z h58 ad42 .long (12 : Int32) (fun zi => .long ((ownUpd (ownUpd (ownUpd (ownUpd (ownUpd (fun _ => (0 : Int64)) (0 : Int32).toInt (1 : Int64)) (1 : Int32).toInt (10 : Int64)) (2 : Int32).toInt (100 : Int64)) (3 : Int32).toInt (1000 : Int64)) (4 : Int32).toInt (10000 : Int64)) zi)) := F58.congr (fun zi _ _ => by exact ownUpd_long (ownUpd (ownUpd (ownUpd (ownUpd (fun _ => (0 : Int64)) (0 : Int32).toInt (1 : Int64)) (1 : Int32).toInt (10 : Int64)) (2 : Int32).toInt (100 : Int64)) (3 : Int32).toInt (1000 : Int64)) _ _ zi)
  show OwnWp p e below s _ _ _ (T58.setTop (mkF m 157 #[.val (.int p1), .val (.int p2), .val (.int p3), .val (.int p4), .val (.int w1), .val (.int w2), .val (.int w3), .val (.int w4), .val (.int w5), .val (.ref ad12), .unset] [(.ref ad42)]))
  refine OwnWp.step (U' := T58.setTop (mkF m 162 #[.val (.int p1), .val (.int p2), .val (.int p3), .val (.int p4), .val (.int w1), .val (.int w2), .val (.int w3), .val (.int w4), .val (.int w5), .val (.ref ad12), .unset] [(.long (100000 : Int64)), (.int (5 : Int32)), (.ref ad42), (.ref ad42)])) (fun t k => ?_) ?_
  · show Steps p.tables e below (T58.setTop (mkF m 157 #[.val (.int p1), .val (.int p2), .val (.int p3), .val (.int p4), .val (.int w1), .val (.int w2), .val (.int w3), .val (.int w4), .val (.int w5), .val (.ref ad12), .unset] [(.ref ad42)])) _
    refine XS.dup X58.here hx rfl (hb hby at_157) rfl rfl ?_
    show Steps p.tables e below (T58.setTop (mkF m 158 #[.val (.int p1), .val (.int p2), .val (.int p3), .val (.int p4), .val (.int w1), .val (.int w2), .val (.int w3), .val (.int w4), .val (.int w5), .val (.ref ad12), .unset] [(.ref ad42), (.ref ad42)])) _
    refine XT.iconstV X58.here hx rfl (5 : Int32) (hb hby at_158) rfl ?_
    show Steps p.tables e below (T58.setTop (mkF m 159 #[.val (.int p1), .val (.int p2), .val (.int p3), .val (.int p4), .val (.int w1), .val (.int w2), .val (.int w3), .val (.int w4), .val (.int w5), .val (.ref ad12), .unset] [(.int (5 : Int32)), (.ref ad42), (.ref ad42)])) _
    refine X58.ldc2J hx hown (mvT hZ (hw _ (List.mem_of_getElem? (i := 8) rfl))) rfl (hb hby at_159) ?_
    show Steps p.tables e below (T58.setTop (mkF m 162 #[.val (.int p1), .val (.int p2), .val (.int p3), .val (.int p4), .val (.int w1), .val (.int w2), .val (.int w3), .val (.int w4), .val (.int w5), .val (.ref ad12), .unset] [(.long (100000 : Int64)), (.int (5 : Int32)), (.ref ad42), (.ref ad42)])) _
    exact k
  obtain ⟨T61, h61, L61, X61, e61, N61, K61, F61, st61⟩ := OwnA.stJ X58 hx hZ e58 N58 b42 F60 (by decide) (by decide) (g := (mkF m 162 #[.val (.int p1), .val (.int p2), .val (.int p3), .val (.int p4), .val (.int w1), .val (.int w2), .val (.int w3), .val (.int w4), .val (.int w5), .val (.ref ad12), .unset] [(.long (100000 : Int64)), (.int (5 : Int32)), (.ref ad42), (.ref ad42)])) rfl rfl (hb hby at_162)
  refine OwnWp.step st61 ?_
  have Z61 : n0 ≤ h61.size := Nat.le_trans Z58 K61.1
  have f62 := OwnA.keep f59 K61 (ninS ne42_43 nin0)
  have F63 : OwnA Z h61 ad42 .long (12 : Int32) (fun zi => .long ((ownUpd (ownUpd (ownUpd (ownUpd (ownUpd (ownUpd (fun _ => (0 : Int64)) (0 : Int32).toInt (1 : Int64)) (1 : Int32).toInt (10 : Int64)) (2 : Int32).toInt (100 : Int64)) (3 : Int32).toInt (1000 : Int64)) (4 : Int32).toInt (10000 : Int64)) (5 : Int32).toInt (100000 : Int64)) zi)) := F61.congr (fun zi _ _ => by exact ownUpd_long (ownUpd (ownUpd (ownUpd (ownUpd (ownUpd (fun _ => (0 : Int64)) (0 : Int32).toInt (1 : Int64)) (1 : Int32).toInt (10 : Int64)) (2 : Int32).toInt (100 : Int64)) (3 : Int32).toInt (1000 : Int64)) (4 : Int32).toInt (10000 : Int64)) _ _ zi)
  show OwnWp p e below s _ _ _ (T61.setTop (mkF m 163 #[.val (.int p1), .val (.int p2), .val (.int p3), .val (.int p4), .val (.int w1), .val (.int w2), .val (.int w3), .val (.int w4), .val (.int w5), .val (.ref ad12), .unset] [(.ref ad42)]))
  refine OwnWp.step (U' := T61.setTop (mkF m 169 #[.val (.int p1), .val (.int p2), .val (.int p3), .val (.int p4), .val (.int w1), .val (.int w2), .val (.int w3), .val (.int w4), .val (.int w5), .val (.ref ad12), .unset] [(.long (1000000 : Int64)), (.int (6 : Int32)), (.ref ad42), (.ref ad42)])) (fun t k => ?_) ?_
  · show Steps p.tables e below (T61.setTop (mkF m 163 #[.val (.int p1), .val (.int p2), .val (.int p3), .val (.int p4), .val (.int w1), .val (.int w2), .val (.int w3), .val (.int w4), .val (.int w5), .val (.ref ad12), .unset] [(.ref ad42)])) _
    refine XS.dup X61.here hx rfl (hb hby at_163) rfl rfl ?_
    show Steps p.tables e below (T61.setTop (mkF m 164 #[.val (.int p1), .val (.int p2), .val (.int p3), .val (.int p4), .val (.int w1), .val (.int w2), .val (.int w3), .val (.int w4), .val (.int w5), .val (.ref ad12), .unset] [(.ref ad42), (.ref ad42)])) _
    refine XT.bipushV X61.here hx rfl (6 : Int32) (hb hby at_164) rfl ?_
    show Steps p.tables e below (T61.setTop (mkF m 166 #[.val (.int p1), .val (.int p2), .val (.int p3), .val (.int p4), .val (.int w1), .val (.int w2), .val (.int w3), .val (.int w4), .val (.int w5), .val (.ref ad12), .unset] [(.int (6 : Int32)), (.ref ad42), (.ref ad42)])) _
    refine X61.ldc2J hx hown (mvT hZ (hw _ (List.mem_of_getElem? (i := 9) rfl))) rfl (hb hby at_166) ?_
    show Steps p.tables e below (T61.setTop (mkF m 169 #[.val (.int p1), .val (.int p2), .val (.int p3), .val (.int p4), .val (.int w1), .val (.int w2), .val (.int w3), .val (.int w4), .val (.int w5), .val (.ref ad12), .unset] [(.long (1000000 : Int64)), (.int (6 : Int32)), (.ref ad42), (.ref ad42)])) _
    exact k
  obtain ⟨T64, h64, L64, X64, e64, N64, K64, F64, st64⟩ := OwnA.stJ X61 hx hZ e61 N61 b42 F63 (by decide) (by decide) (g := (mkF m 169 #[.val (.int p1), .val (.int p2), .val (.int p3), .val (.int p4), .val (.int w1), .val (.int w2), .val (.int w3), .val (.int w4), .val (.int w5), .val (.ref ad12), .unset] [(.long (1000000 : Int64)), (.int (6 : Int32)), (.ref ad42), (.ref ad42)])) rfl rfl (hb hby at_169)
  refine OwnWp.step st64 ?_
  have Z64 : n0 ≤ h64.size := Nat.le_trans Z61 K64.1
  have f65 := OwnA.keep f62 K64 (ninS ne42_43 nin0)
  have F66 : OwnA Z h64 ad42 .long (12 : Int32) (fun zi => .long ((ownUpd (ownUpd (ownUpd (ownUpd (ownUpd (ownUpd (ownUpd (fun _ => (0 : Int64)) (0 : Int32).toInt (1 : Int64)) (1 : Int32).toInt (10 : Int64)) (2 : Int32).toInt (100 : Int64)) (3 : Int32).toInt (1000 : Int64)) (4 : Int32).toInt (10000 : Int64)) (5 : Int32).toInt (100000 : Int64)) (6 : Int32).toInt (1000000 : Int64)) zi)) := F64.congr (fun zi _ _ => by exact ownUpd_long (ownUpd (ownUpd (ownUpd (ownUpd (ownUpd (ownUpd (fun _ => (0 : Int64)) (0 : Int32).toInt (1 : Int64)) (1 : Int32).toInt (10 : Int64)) (2 : Int32).toInt (100 : Int64)) (3 : Int32).toInt (1000 : Int64)) (4 : Int32).toInt (10000 : Int64)) (5 : Int32).toInt (100000 : Int64)) _ _ zi)
  show OwnWp p e below s _ _ _ (T64.setTop (mkF m 170 #[.val (.int p1), .val (.int p2), .val (.int p3), .val (.int p4), .val (.int w1), .val (.int w2), .val (.int w3), .val (.int w4), .val (.int w5), .val (.ref ad12), .unset] [(.ref ad42)]))
  refine OwnWp.step (U' := T64.setTop (mkF m 176 #[.val (.int p1), .val (.int p2), .val (.int p3), .val (.int p4), .val (.int w1), .val (.int w2), .val (.int w3), .val (.int w4), .val (.int w5), .val (.ref ad12), .unset] [(.long (10000000 : Int64)), (.int (7 : Int32)), (.ref ad42), (.ref ad42)])) (fun t k => ?_) ?_
  · show Steps p.tables e below (T64.setTop (mkF m 170 #[.val (.int p1), .val (.int p2), .val (.int p3), .val (.int p4), .val (.int w1), .val (.int w2), .val (.int w3), .val (.int w4), .val (.int w5), .val (.ref ad12), .unset] [(.ref ad42)])) _
    refine XS.dup X64.here hx rfl (hb hby at_170) rfl rfl ?_
    show Steps p.tables e below (T64.setTop (mkF m 171 #[.val (.int p1), .val (.int p2), .val (.int p3), .val (.int p4), .val (.int w1), .val (.int w2), .val (.int w3), .val (.int w4), .val (.int w5), .val (.ref ad12), .unset] [(.ref ad42), (.ref ad42)])) _
    refine XT.bipushV X64.here hx rfl (7 : Int32) (hb hby at_171) rfl ?_
    show Steps p.tables e below (T64.setTop (mkF m 173 #[.val (.int p1), .val (.int p2), .val (.int p3), .val (.int p4), .val (.int w1), .val (.int w2), .val (.int w3), .val (.int w4), .val (.int w5), .val (.ref ad12), .unset] [(.int (7 : Int32)), (.ref ad42), (.ref ad42)])) _
    refine X64.ldc2J hx hown (mvT hZ (hw _ (List.mem_of_getElem? (i := 10) rfl))) rfl (hb hby at_173) ?_
    show Steps p.tables e below (T64.setTop (mkF m 176 #[.val (.int p1), .val (.int p2), .val (.int p3), .val (.int p4), .val (.int w1), .val (.int w2), .val (.int w3), .val (.int w4), .val (.int w5), .val (.ref ad12), .unset] [(.long (10000000 : Int64)), (.int (7 : Int32)), (.ref ad42), (.ref ad42)])) _
    exact k
  obtain ⟨T67, h67, L67, X67, e67, N67, K67, F67, st67⟩ := OwnA.stJ X64 hx hZ e64 N64 b42 F66 (by decide) (by decide) (g := (mkF m 176 #[.val (.int p1), .val (.int p2), .val (.int p3), .val (.int p4), .val (.int w1), .val (.int w2), .val (.int w3), .val (.int w4), .val (.int w5), .val (.ref ad12), .unset] [(.long (10000000 : Int64)), (.int (7 : Int32)), (.ref ad42), (.ref ad42)])) rfl rfl (hb hby at_176)
  refine OwnWp.step st67 ?_
  have Z67 : n0 ≤ h67.size := Nat.le_trans Z64 K67.1
  have f68 := OwnA.keep f65 K67 (ninS ne42_43 nin0)
  have F69 : OwnA Z h67 ad42 .long (12 : Int32) (fun zi => .long ((ownUpd (ownUpd (ownUpd (ownUpd (ownUpd (ownUpd (ownUpd (ownUpd (fun _ => (0 : Int64)) (0 : Int32).toInt (1 : Int64)) (1 : Int32).toInt (10 : Int64)) (2 : Int32).toInt (100 : Int64)) (3 : Int32).toInt (1000 : Int64)) (4 : Int32).toInt (10000 : Int64)) (5 : Int32).toInt (100000 : Int64)) (6 : Int32).toInt (1000000 : Int64)) (7 : Int32).toInt (10000000 : Int64)) zi)) := F67.congr (fun zi _ _ => by exact ownUpd_long (ownUpd (ownUpd (ownUpd (ownUpd (ownUpd (ownUpd (ownUpd (fun _ => (0 : Int64)) (0 : Int32).toInt (1 : Int64)) (1 : Int32).toInt (10 : Int64)) (2 : Int32).toInt (100 : Int64)) (3 : Int32).toInt (1000 : Int64)) (4 : Int32).toInt (10000 : Int64)) (5 : Int32).toInt (100000 : Int64)) (6 : Int32).toInt (1000000 : Int64)) _ _ zi)
  show OwnWp p e below s _ _ _ (T67.setTop (mkF m 177 #[.val (.int p1), .val (.int p2), .val (.int p3), .val (.int p4), .val (.int w1), .val (.int w2), .val (.int w3), .val (.int w4), .val (.int w5), .val (.ref ad12), .unset] [(.ref ad42)]))
  refine OwnWp.step (U' := T67.setTop (mkF m 183 #[.val (.int p1), .val (.int p2), .val (.int p3), .val (.int p4), .val (.int w1), .val (.int w2), .val (.int w3), .val (.int w4), .val (.int w5), .val (.ref ad12), .unset] [(.long (100000000 : Int64)), (.int (8 : Int32)), (.ref ad42), (.ref ad42)])) (fun t k => ?_) ?_
  · show Steps p.tables e below (T67.setTop (mkF m 177 #[.val (.int p1), .val (.int p2), .val (.int p3), .val (.int p4), .val (.int w1), .val (.int w2), .val (.int w3), .val (.int w4), .val (.int w5), .val (.ref ad12), .unset] [(.ref ad42)])) _
    refine XS.dup X67.here hx rfl (hb hby at_177) rfl rfl ?_
    show Steps p.tables e below (T67.setTop (mkF m 178 #[.val (.int p1), .val (.int p2), .val (.int p3), .val (.int p4), .val (.int w1), .val (.int w2), .val (.int w3), .val (.int w4), .val (.int w5), .val (.ref ad12), .unset] [(.ref ad42), (.ref ad42)])) _
    refine XT.bipushV X67.here hx rfl (8 : Int32) (hb hby at_178) rfl ?_
    show Steps p.tables e below (T67.setTop (mkF m 180 #[.val (.int p1), .val (.int p2), .val (.int p3), .val (.int p4), .val (.int w1), .val (.int w2), .val (.int w3), .val (.int w4), .val (.int w5), .val (.ref ad12), .unset] [(.int (8 : Int32)), (.ref ad42), (.ref ad42)])) _
    refine X67.ldc2J hx hown (mvT hZ (hw _ (List.mem_of_getElem? (i := 11) rfl))) rfl (hb hby at_180) ?_
    show Steps p.tables e below (T67.setTop (mkF m 183 #[.val (.int p1), .val (.int p2), .val (.int p3), .val (.int p4), .val (.int w1), .val (.int w2), .val (.int w3), .val (.int w4), .val (.int w5), .val (.ref ad12), .unset] [(.long (100000000 : Int64)), (.int (8 : Int32)), (.ref ad42), (.ref ad42)])) _
    exact k
  obtain ⟨T70, h70, L70, X70, e70, N70, K70, F70, st70⟩ := OwnA.stJ X67 hx hZ e67 N67 b42 F69 (by decide) (by decide) (g := (mkF m 183 #[.val (.int p1), .val (.int p2), .val (.int p3), .val (.int p4), .val (.int w1), .val (.int w2), .val (.int w3), .val (.int w4), .val (.int w5), .val (.ref ad12), .unset] [(.long (100000000 : Int64)), (.int (8 : Int32)), (.ref ad42), (.ref ad42)])) rfl rfl (hb hby at_183)
  refine OwnWp.step st70 ?_
  have Z70 : n0 ≤ h70.size := Nat.le_trans Z67 K70.1
  have f71 := OwnA.keep f68 K70 (ninS ne42_43 nin0)
  have F72 : OwnA Z h70 ad42 .long (12 : Int32) (fun zi => .long ((ownUpd (ownUpd (ownUpd (ownUpd (ownUpd (ownUpd (ownUpd (ownUpd (ownUpd (fun _ => (0 : Int64)) (0 : Int32).toInt (1 : Int64)) (1 : Int32).toInt (10 : Int64)) (2 : Int32).toInt (100 : Int64)) (3 : Int32).toInt (1000 : Int64)) (4 : Int32).toInt (10000 : Int64)) (5 : Int32).toInt (100000 : Int64)) (6 : Int32).toInt (1000000 : Int64)) (7 : Int32).toInt (10000000 : Int64)) (8 : Int32).toInt (100000000 : Int64)) zi)) := F70.congr (fun zi _ _ => by exact ownUpd_long (ownUpd (ownUpd (ownUpd (ownUpd (ownUpd (ownUpd (ownUpd (ownUpd (fun _ => (0 : Int64)) (0 : Int32).toInt (1 : Int64)) (1 : Int32).toInt (10 : Int64)) (2 : Int32).toInt (100 : Int64)) (3 : Int32).toInt (1000 : Int64)) (4 : Int32).toInt (10000 : Int64)) (5 : Int32).toInt (100000 : Int64)) (6 : Int32).toInt (1000000 : Int64)) (7 : Int32).toInt (10000000 : Int64)) _ _ zi)
  show OwnWp p e below s _ _ _ (T70.setTop (mkF m 184 #[.val (.int p1), .val (.int p2), .val (.int p3), .val (.int p4), .val (.int w1), .val (.int w2), .val (.int w3), .val (.int w4), .val (.int w5), .val (.ref ad12), .unset] [(.ref ad42)]))
  refine OwnWp.step (U' := T70.setTop (mkF m 190 #[.val (.int p1), .val (.int p2), .val (.int p3), .val (.int p4), .val (.int w1), .val (.int w2), .val (.int w3), .val (.int w4), .val (.int w5), .val (.ref ad12), .unset] [(.long (1000000000 : Int64)), (.int (9 : Int32)), (.ref ad42), (.ref ad42)])) (fun t k => ?_) ?_
  · show Steps p.tables e below (T70.setTop (mkF m 184 #[.val (.int p1), .val (.int p2), .val (.int p3), .val (.int p4), .val (.int w1), .val (.int w2), .val (.int w3), .val (.int w4), .val (.int w5), .val (.ref ad12), .unset] [(.ref ad42)])) _
    refine XS.dup X70.here hx rfl (hb hby at_184) rfl rfl ?_
    show Steps p.tables e below (T70.setTop (mkF m 185 #[.val (.int p1), .val (.int p2), .val (.int p3), .val (.int p4), .val (.int w1), .val (.int w2), .val (.int w3), .val (.int w4), .val (.int w5), .val (.ref ad12), .unset] [(.ref ad42), (.ref ad42)])) _
    refine XT.bipushV X70.here hx rfl (9 : Int32) (hb hby at_185) rfl ?_
    show Steps p.tables e below (T70.setTop (mkF m 187 #[.val (.int p1), .val (.int p2), .val (.int p3), .val (.int p4), .val (.int w1), .val (.int w2), .val (.int w3), .val (.int w4), .val (.int w5), .val (.ref ad12), .unset] [(.int (9 : Int32)), (.ref ad42), (.ref ad42)])) _
    refine X70.ldc2J hx hown (mvT hZ (hw _ (List.mem_of_getElem? (i := 12) rfl))) rfl (hb hby at_187) ?_
    show Steps p.tables e below (T70.setTop (mkF m 190 #[.val (.int p1), .val (.int p2), .val (.int p3), .val (.int p4), .val (.int w1), .val (.int w2), .val (.int w3), .val (.int w4), .val (.int w5), .val (.ref ad12), .unset] [(.long (1000000000 : Int64)), (.int (9 : Int32)), (.ref ad42), (.ref ad42)])) _
    exact k
  obtain ⟨T73, h73, L73, X73, e73, N73, K73, F73, st73⟩ := OwnA.stJ X70 hx hZ e70 N70 b42 F72 (by decide) (by decide) (g := (mkF m 190 #[.val (.int p1), .val (.int p2), .val (.int p3), .val (.int p4), .val (.int w1), .val (.int w2), .val (.int w3), .val (.int w4), .val (.int w5), .val (.ref ad12), .unset] [(.long (1000000000 : Int64)), (.int (9 : Int32)), (.ref ad42), (.ref ad42)])) rfl rfl (hb hby at_190)
  refine OwnWp.step st73 ?_
  have Z73 : n0 ≤ h73.size := Nat.le_trans Z70 K73.1
  have f74 := OwnA.keep f71 K73 (ninS ne42_43 nin0)
  have F75 : OwnA Z h73 ad42 .long (12 : Int32) (fun zi => .long ((ownUpd (ownUpd (ownUpd (ownUpd (ownUpd (ownUpd (ownUpd (ownUpd (ownUpd (ownUpd (fun _ => (0 : Int64)) (0 : Int32).toInt (1 : Int64)) (1 : Int32).toInt (10 : Int64)) (2 : Int32).toInt (100 : Int64)) (3 : Int32).toInt (1000 : Int64)) (4 : Int32).toInt (10000 : Int64)) (5 : Int32).toInt (100000 : Int64)) (6 : Int32).toInt (1000000 : Int64)) (7 : Int32).toInt (10000000 : Int64)) (8 : Int32).toInt (100000000 : Int64)) (9 : Int32).toInt (1000000000 : Int64)) zi)) := F73.congr (fun zi _ _ => by exact ownUpd_long (ownUpd (ownUpd (ownUpd (ownUpd (ownUpd (ownUpd (ownUpd (ownUpd (ownUpd (fun _ => (0 : Int64)) (0 : Int32).toInt (1 : Int64)) (1 : Int32).toInt (10 : Int64)) (2 : Int32).toInt (100 : Int64)) (3 : Int32).toInt (1000 : Int64)) (4 : Int32).toInt (10000 : Int64)) (5 : Int32).toInt (100000 : Int64)) (6 : Int32).toInt (1000000 : Int64)) (7 : Int32).toInt (10000000 : Int64)) (8 : Int32).toInt (100000000 : Int64)) _ _ zi)
  show OwnWp p e below s _ _ _ (T73.setTop (mkF m 191 #[.val (.int p1), .val (.int p2), .val (.int p3), .val (.int p4), .val (.int w1), .val (.int w2), .val (.int w3), .val (.int w4), .val (.int w5), .val (.ref ad12), .unset] [(.ref ad42)]))
  refine OwnWp.step (U' := T73.setTop (mkF m 197 #[.val (.int p1), .val (.int p2), .val (.int p3), .val (.int p4), .val (.int w1), .val (.int w2), .val (.int w3), .val (.int w4), .val (.int w5), .val (.ref ad12), .unset] [(.long (10000000000 : Int64)), (.int (10 : Int32)), (.ref ad42), (.ref ad42)])) (fun t k => ?_) ?_
  · show Steps p.tables e below (T73.setTop (mkF m 191 #[.val (.int p1), .val (.int p2), .val (.int p3), .val (.int p4), .val (.int w1), .val (.int w2), .val (.int w3), .val (.int w4), .val (.int w5), .val (.ref ad12), .unset] [(.ref ad42)])) _
    refine XS.dup X73.here hx rfl (hb hby at_191) rfl rfl ?_
    show Steps p.tables e below (T73.setTop (mkF m 192 #[.val (.int p1), .val (.int p2), .val (.int p3), .val (.int p4), .val (.int w1), .val (.int w2), .val (.int w3), .val (.int w4), .val (.int w5), .val (.ref ad12), .unset] [(.ref ad42), (.ref ad42)])) _
    refine XT.bipushV X73.here hx rfl (10 : Int32) (hb hby at_192) rfl ?_
    show Steps p.tables e below (T73.setTop (mkF m 194 #[.val (.int p1), .val (.int p2), .val (.int p3), .val (.int p4), .val (.int w1), .val (.int w2), .val (.int w3), .val (.int w4), .val (.int w5), .val (.ref ad12), .unset] [(.int (10 : Int32)), (.ref ad42), (.ref ad42)])) _
    refine X73.ldc2J hx hown (mvT hZ (hw _ (List.mem_of_getElem? (i := 13) rfl))) rfl (hb hby at_194) ?_
    show Steps p.tables e below (T73.setTop (mkF m 197 #[.val (.int p1), .val (.int p2), .val (.int p3), .val (.int p4), .val (.int w1), .val (.int w2), .val (.int w3), .val (.int w4), .val (.int w5), .val (.ref ad12), .unset] [(.long (10000000000 : Int64)), (.int (10 : Int32)), (.ref ad42), (.ref ad42)])) _
    exact k
  obtain ⟨T76, h76, L76, X76, e76, N76, K76, F76, st76⟩ := OwnA.stJ X73 hx hZ e73 N73 b42 F75 (by decide) (by decide) (g := (mkF m 197 #[.val (.int p1), .val (.int p2), .val (.int p3), .val (.int p4), .val (.int w1), .val (.int w2), .val (.int w3), .val (.int w4), .val (.int w5), .val (.ref ad12), .unset] [(.long (10000000000 : Int64)), (.int (10 : Int32)), (.ref ad42), (.ref ad42)])) rfl rfl (hb hby at_197)
  refine OwnWp.step st76 ?_
  have Z76 : n0 ≤ h76.size := Nat.le_trans Z73 K76.1
  have f77 := OwnA.keep f74 K76 (ninS ne42_43 nin0)
  have F78 : OwnA Z h76 ad42 .long (12 : Int32) (fun zi => .long ((ownUpd (ownUpd (ownUpd (ownUpd (ownUpd (ownUpd (ownUpd (ownUpd (ownUpd (ownUpd (ownUpd (fun _ => (0 : Int64)) (0 : Int32).toInt (1 : Int64)) (1 : Int32).toInt (10 : Int64)) (2 : Int32).toInt (100 : Int64)) (3 : Int32).toInt (1000 : Int64)) (4 : Int32).toInt (10000 : Int64)) (5 : Int32).toInt (100000 : Int64)) (6 : Int32).toInt (1000000 : Int64)) (7 : Int32).toInt (10000000 : Int64)) (8 : Int32).toInt (100000000 : Int64)) (9 : Int32).toInt (1000000000 : Int64)) (10 : Int32).toInt (10000000000 : Int64)) zi)) := F76.congr (fun zi _ _ => by exact ownUpd_long (ownUpd (ownUpd (ownUpd (ownUpd (ownUpd (ownUpd (ownUpd (ownUpd (ownUpd (ownUpd (fun _ => (0 : Int64)) (0 : Int32).toInt (1 : Int64)) (1 : Int32).toInt (10 : Int64)) (2 : Int32).toInt (100 : Int64)) (3 : Int32).toInt (1000 : Int64)) (4 : Int32).toInt (10000 : Int64)) (5 : Int32).toInt (100000 : Int64)) (6 : Int32).toInt (1000000 : Int64)) (7 : Int32).toInt (10000000 : Int64)) (8 : Int32).toInt (100000000 : Int64)) (9 : Int32).toInt (1000000000 : Int64)) _ _ zi)
  show OwnWp p e below s _ _ _ (T76.setTop (mkF m 198 #[.val (.int p1), .val (.int p2), .val (.int p3), .val (.int p4), .val (.int w1), .val (.int w2), .val (.int w3), .val (.int w4), .val (.int w5), .val (.ref ad12), .unset] [(.ref ad42)]))
  refine OwnWp.step (U' := T76.setTop (mkF m 204 #[.val (.int p1), .val (.int p2), .val (.int p3), .val (.int p4), .val (.int w1), .val (.int w2), .val (.int w3), .val (.int w4), .val (.int w5), .val (.ref ad12), .unset] [(.long (100000000000 : Int64)), (.int (11 : Int32)), (.ref ad42), (.ref ad42)])) (fun t k => ?_) ?_
  · show Steps p.tables e below (T76.setTop (mkF m 198 #[.val (.int p1), .val (.int p2), .val (.int p3), .val (.int p4), .val (.int w1), .val (.int w2), .val (.int w3), .val (.int w4), .val (.int w5), .val (.ref ad12), .unset] [(.ref ad42)])) _
    refine XS.dup X76.here hx rfl (hb hby at_198) rfl rfl ?_
    show Steps p.tables e below (T76.setTop (mkF m 199 #[.val (.int p1), .val (.int p2), .val (.int p3), .val (.int p4), .val (.int w1), .val (.int w2), .val (.int w3), .val (.int w4), .val (.int w5), .val (.ref ad12), .unset] [(.ref ad42), (.ref ad42)])) _
    refine XT.bipushV X76.here hx rfl (11 : Int32) (hb hby at_199) rfl ?_
    show Steps p.tables e below (T76.setTop (mkF m 201 #[.val (.int p1), .val (.int p2), .val (.int p3), .val (.int p4), .val (.int w1), .val (.int w2), .val (.int w3), .val (.int w4), .val (.int w5), .val (.ref ad12), .unset] [(.int (11 : Int32)), (.ref ad42), (.ref ad42)])) _
    refine X76.ldc2J hx hown (mvT hZ (hw _ (List.mem_of_getElem? (i := 14) rfl))) rfl (hb hby at_201) ?_
    show Steps p.tables e below (T76.setTop (mkF m 204 #[.val (.int p1), .val (.int p2), .val (.int p3), .val (.int p4), .val (.int w1), .val (.int w2), .val (.int w3), .val (.int w4), .val (.int w5), .val (.ref ad12), .unset] [(.long (100000000000 : Int64)), (.int (11 : Int32)), (.ref ad42), (.ref ad42)])) _
    exact k
  obtain ⟨T79, h79, L79, X79, e79, N79, K79, F79, st79⟩ := OwnA.stJ X76 hx hZ e76 N76 b42 F78 (by decide) (by decide) (g := (mkF m 204 #[.val (.int p1), .val (.int p2), .val (.int p3), .val (.int p4), .val (.int w1), .val (.int w2), .val (.int w3), .val (.int w4), .val (.int w5), .val (.ref ad12), .unset] [(.long (100000000000 : Int64)), (.int (11 : Int32)), (.ref ad42), (.ref ad42)])) rfl rfl (hb hby at_204)
  refine OwnWp.step st79 ?_
  have Z79 : n0 ≤ h79.size := Nat.le_trans Z76 K79.1
  have f80 := OwnA.keep f77 K79 (ninS ne42_43 nin0)
  have F81 : OwnA Z h79 ad42 .long (12 : Int32) (fun zi => .long ((ownUpd (ownUpd (ownUpd (ownUpd (ownUpd (ownUpd (ownUpd (ownUpd (ownUpd (ownUpd (ownUpd (ownUpd (fun _ => (0 : Int64)) (0 : Int32).toInt (1 : Int64)) (1 : Int32).toInt (10 : Int64)) (2 : Int32).toInt (100 : Int64)) (3 : Int32).toInt (1000 : Int64)) (4 : Int32).toInt (10000 : Int64)) (5 : Int32).toInt (100000 : Int64)) (6 : Int32).toInt (1000000 : Int64)) (7 : Int32).toInt (10000000 : Int64)) (8 : Int32).toInt (100000000 : Int64)) (9 : Int32).toInt (1000000000 : Int64)) (10 : Int32).toInt (10000000000 : Int64)) (11 : Int32).toInt (100000000000 : Int64)) zi)) := F79.congr (fun zi _ _ => by exact ownUpd_long (ownUpd (ownUpd (ownUpd (ownUpd (ownUpd (ownUpd (ownUpd (ownUpd (ownUpd (ownUpd (ownUpd (fun _ => (0 : Int64)) (0 : Int32).toInt (1 : Int64)) (1 : Int32).toInt (10 : Int64)) (2 : Int32).toInt (100 : Int64)) (3 : Int32).toInt (1000 : Int64)) (4 : Int32).toInt (10000 : Int64)) (5 : Int32).toInt (100000 : Int64)) (6 : Int32).toInt (1000000 : Int64)) (7 : Int32).toInt (10000000 : Int64)) (8 : Int32).toInt (100000000 : Int64)) (9 : Int32).toInt (1000000000 : Int64)) (10 : Int32).toInt (10000000000 : Int64)) _ _ zi)
  show OwnWp p e below s _ _ _ (T79.setTop (mkF m 205 #[.val (.int p1), .val (.int p2), .val (.int p3), .val (.int p4), .val (.int w1), .val (.int w2), .val (.int w3), .val (.int w4), .val (.int w5), .val (.ref ad12), .unset] [(.ref ad42)]))
  have Fp := OwnA.congr F81 own_fill
  refine OwnWp.step (U' := T79.setTop (mkF m 215 #[.val (.int p1), .val (.int p2), .val (.int p3), .val (.int p4), .val (.int w1), .val (.int w2), .val (.int w3), .val (.int w4), .val (.int w5), .val (.ref ad12), .val (.ref ad42)] [(.int w1), (.int w4), (.int w3), (.ref ad12)])) (fun t k => ?_) ?_
  · show Steps p.tables e below (T79.setTop (mkF m 205 #[.val (.int p1), .val (.int p2), .val (.int p3), .val (.int p4), .val (.int w1), .val (.int w2), .val (.int w3), .val (.int w4), .val (.int w5), .val (.ref ad12), .unset] [(.ref ad42)])) _
    refine XS.astore X79.here hx rfl (hb hby at_205) rfl rfl (l' := #[.val (.int p1), .val (.int p2), .val (.int p3), .val (.int p4), .val (.int w1), .val (.int w2), .val (.int w3), .val (.int w4), .val (.int w5), .val (.ref ad12), .val (.ref ad42)]) rfl ?_
    show Steps p.tables e below (T79.setTop (mkF m 207 #[.val (.int p1), .val (.int p2), .val (.int p3), .val (.int p4), .val (.int w1), .val (.int w2), .val (.int w3), .val (.int w4), .val (.int w5), .val (.ref ad12), .val (.ref ad42)] [])) _
    refine XS.aload X79.here hx rfl (hb hby at_207) rfl rfl ?_
    show Steps p.tables e below (T79.setTop (mkF m 209 #[.val (.int p1), .val (.int p2), .val (.int p3), .val (.int p4), .val (.int w1), .val (.int w2), .val (.int w3), .val (.int w4), .val (.int w5), .val (.ref ad12), .val (.ref ad42)] [(.ref ad12)])) _
    refine XS.iload X79.here hx rfl (hb hby at_209) rfl ?_
    show Steps p.tables e below (T79.setTop (mkF m 211 #[.val (.int p1), .val (.int p2), .val (.int p3), .val (.int p4), .val (.int w1), .val (.int w2), .val (.int w3), .val (.int w4), .val (.int w5), .val (.ref ad12), .val (.ref ad42)] [(.int w3), (.ref ad12)])) _
    refine XS.iload X79.here hx rfl (hb hby at_211) rfl ?_
    show Steps p.tables e below (T79.setTop (mkF m 213 #[.val (.int p1), .val (.int p2), .val (.int p3), .val (.int p4), .val (.int w1), .val (.int w2), .val (.int w3), .val (.int w4), .val (.int w5), .val (.ref ad12), .val (.ref ad42)] [(.int w4), (.int w3), (.ref ad12)])) _
    refine XS.iload X79.here hx rfl (hb hby at_213) rfl ?_
    show Steps p.tables e below (T79.setTop (mkF m 215 #[.val (.int p1), .val (.int p2), .val (.int p3), .val (.int p4), .val (.int w1), .val (.int w2), .val (.int w3), .val (.int w4), .val (.int w5), .val (.ref ad12), .val (.ref ad42)] [(.int w1), (.int w4), (.int w3), (.ref ad12)])) _
    exact k
  obtain ⟨_, _, ⟨T82, L82, k82, n82⟩, -, X82, ⟨Lc82, hQ82, l82, y82, z82⟩, st82⟩ := Jvm.LawKit.callS X79 hx (y := (⟨"com/example/kalend/kalend/util/Digits", "write", "([CIII)V"⟩ : MethodName)) hown (mvT hZ (hw _ (List.mem_of_getElem? (i := 15) rfl))) (mvT hZ (hw _ (List.mem_of_getElem? (i := 16) rfl))) (mvT hZ (hw _ (List.mem_of_getElem? (i := 17) rfl))) (mvT hZ (hw _ (List.mem_of_getElem? (i := 18) rfl))) (by decide) (backOf (W := 0) (rm1 l Z a0 hw [] ad12 w3 w4 w1 (fun _ => w5) h79 n0 Z79 b12 f80 hbg hbe he hv) hZ (hw _ (List.mem_of_getElem? (i := 18) rfl)) (hw _ (List.mem_of_getElem? (i := 17) rfl)) (by decide) (by decide)) (g := (mkF m 215 #[.val (.int p1), .val (.int p2), .val (.int p3), .val (.int p4), .val (.int w1), .val (.int w2), .val (.int w3), .val (.int w4), .val (.int w5), .val (.ref ad12), .val (.ref ad42)] [(.int w1), (.int w4), (.int w3), (.ref ad12)])) rfl (by rw [hml]; rfl) (argsL := [(.ref ad12), (.int w3), (.int w4), (.int w1)]) (rest := []) (lenOf pd_1 rfl) rfl (by show 2 * 0 + _ ≤ _; exact Nat.le_of_eq rfl) (hb hby at_215) (fun _ _ => ⟨rfl, e79, (by dsimp only [Pt.cells]; decide), (by dsimp only [Pt.slots]; decide)⟩)
  dsimp only [Pt.U, Pt.locs, Pt.cells, Pt.slots] at X82 l82 y82 z82 st82 hQ82
  subst l82 y82 z82
  obtain ⟨rfl, Nc82, Kc82, ⟨g82, ag82, hg82⟩⟩ := hQ82
  have N82 := Fr.app N79 Nc82
  refine OwnWp.step st82 ?_
  have Z82 : n0 ≤ T82.heap.size := Nat.le_trans Z79 Kc82.1
  have f84 := OwnA.keep Fp Kc82 (ninS ne42_43.symm nin0)
  show OwnWp p e below s _ _ _ (T82.setTop (mkF m 218 #[.val (.int p1), .val (.int p2), .val (.int p3), .val (.int p4), .val (.int w1), .val (.int w2), .val (.int w3), .val (.int w4), .val (.int w5), .val (.ref ad12), .val (.ref ad42)] []))
  obtain ⟨hga, hgb⟩ := hg82
  refine OwnWp.step (U' := T82.setTop (mkF m 231 #[.val (.int p1), .val (.int p2), .val (.int p3), .val (.int p4), .val (.int w1), .val (.int w2), .val (.int w3), .val (.int w4), .val (.int w5), .val (.ref ad12), .val (.ref ad42)] [(.ref ad42), (.int w5), (.int w1), (.int w4), (.int w3), (.int (0 : Int32)), (.ref ad12)])) (fun t k => ?_) ?_
  · show Steps p.tables e below (T82.setTop (mkF m 218 #[.val (.int p1), .val (.int p2), .val (.int p3), .val (.int p4), .val (.int w1), .val (.int w2), .val (.int w3), .val (.int w4), .val (.int w5), .val (.ref ad12), .val (.ref ad42)] [])) _
    refine XS.aload X82.here hx rfl (hb hby at_218) rfl rfl ?_
    show Steps p.tables e below (T82.setTop (mkF m 220 #[.val (.int p1), .val (.int p2), .val (.int p3), .val (.int p4), .val (.int w1), .val (.int w2), .val (.int w3), .val (.int w4), .val (.int w5), .val (.ref ad12), .val (.ref ad42)] [(.ref ad12)])) _
    refine XT.iconstV X82.here hx rfl (0 : Int32) (hb hby at_220) rfl ?_
    show Steps p.tables e below (T82.setTop (mkF m 221 #[.val (.int p1), .val (.int p2), .val (.int p3), .val (.int p4), .val (.int w1), .val (.int w2), .val (.int w3), .val (.int w4), .val (.int w5), .val (.ref ad12), .val (.ref ad42)] [(.int (0 : Int32)), (.ref ad12)])) _
    refine XS.iload X82.here hx rfl (hb hby at_221) rfl ?_
    show Steps p.tables e below (T82.setTop (mkF m 223 #[.val (.int p1), .val (.int p2), .val (.int p3), .val (.int p4), .val (.int w1), .val (.int w2), .val (.int w3), .val (.int w4), .val (.int w5), .val (.ref ad12), .val (.ref ad42)] [(.int w3), (.int (0 : Int32)), (.ref ad12)])) _
    refine XS.iload X82.here hx rfl (hb hby at_223) rfl ?_
    show Steps p.tables e below (T82.setTop (mkF m 225 #[.val (.int p1), .val (.int p2), .val (.int p3), .val (.int p4), .val (.int w1), .val (.int w2), .val (.int w3), .val (.int w4), .val (.int w5), .val (.ref ad12), .val (.ref ad42)] [(.int w4), (.int w3), (.int (0 : Int32)), (.ref ad12)])) _
    refine XS.iload X82.here hx rfl (hb hby at_225) rfl ?_
    show Steps p.tables e below (T82.setTop (mkF m 227 #[.val (.int p1), .val (.int p2), .val (.int p3), .val (.int p4), .val (.int w1), .val (.int w2), .val (.int w3), .val (.int w4), .val (.int w5), .val (.ref ad12), .val (.ref ad42)] [(.int w1), (.int w4), (.int w3), (.int (0 : Int32)), (.ref ad12)])) _
    refine XS.iload X82.here hx rfl (hb hby at_227) rfl ?_
    show Steps p.tables e below (T82.setTop (mkF m 229 #[.val (.int p1), .val (.int p2), .val (.int p3), .val (.int p4), .val (.int w1), .val (.int w2), .val (.int w3), .val (.int w4), .val (.int w5), .val (.ref ad12), .val (.ref ad42)] [(.int w5), (.int w1), (.int w4), (.int w3), (.int (0 : Int32)), (.ref ad12)])) _
    refine XS.aload X82.here hx rfl (hb hby at_229) rfl rfl ?_
    show Steps p.tables e below (T82.setTop (mkF m 231 #[.val (.int p1), .val (.int p2), .val (.int p3), .val (.int p4), .val (.int w1), .val (.int w2), .val (.int w3), .val (.int w4), .val (.int w5), .val (.ref ad12), .val (.ref ad42)] [(.ref ad42), (.int w5), (.int w1), (.int w4), (.int w3), (.int (0 : Int32)), (.ref ad12)])) _
    exact k
  obtain ⟨_, _, ⟨T85, L85, k85, n85⟩, -, X85, ⟨Lc85, hQ85, l85, y85, z85⟩, st85⟩ := Jvm.LawKit.callS X82 hx (y := (⟨"com/example/kalend/kalend/util/DigitsWritePinLaw", "ok", "([CIIIIC[J)Z"⟩ : MethodName)) hown (mvT hZ (hw _ (List.mem_of_getElem? (i := 19) rfl))) (mvT hZ (hw _ (List.mem_of_getElem? (i := 20) rfl))) (mvT hZ (hw _ (List.mem_of_getElem? (i := 21) rfl))) (mvT hZ (hw _ (List.mem_of_getElem? (i := 22) rfl))) (by decide) (backOf (W := 0) (rm2 l Z a0 hw [] ad12 (0 : Int32) w3 w4 w1 w5 ad42 g82 T82.heap n0 Z82 ag82 f84 (by decide) hv ⟨hbg, hbe, he, hwd⟩ (hga 0) (hgb 0)) hZ (hw _ (List.mem_of_getElem? (i := 22) rfl)) (hw _ (List.mem_of_getElem? (i := 21) rfl)) (by decide) (by decide)) (g := (mkF m 231 #[.val (.int p1), .val (.int p2), .val (.int p3), .val (.int p4), .val (.int w1), .val (.int w2), .val (.int w3), .val (.int w4), .val (.int w5), .val (.ref ad12), .val (.ref ad42)] [(.ref ad42), (.int w5), (.int w1), (.int w4), (.int w3), (.int (0 : Int32)), (.ref ad12)])) rfl (by rw [hml]; rfl) (argsL := [(.ref ad12), (.int (0 : Int32)), (.int w3), (.int w4), (.int w1), (.int w5), (.ref ad42)]) (rest := []) (lenOf pd_2 rfl) rfl (by show 2 * 0 + _ ≤ _; exact Nat.le_of_eq rfl) (hb hby at_231) (fun _ _ => ⟨rfl, (rfl : T82.heap = T82.heap), (by dsimp only [Pt.cells]; decide), (by dsimp only [Pt.slots]; decide)⟩)
  dsimp only [Pt.U, Pt.locs, Pt.cells, Pt.slots] at X85 l85 y85 z85 st85 hQ85
  subst l85 y85 z85
  obtain ⟨rfl, Nc85, hp85⟩ := hQ85
  have N85 := Fr.app N82 Nc85
  refine OwnWp.step st85 ?_
  have eh85 : T85.heap = T82.heap := hp85
  show OwnWp p e below s _ _ _ (T85.setTop (mkF m 234 #[.val (.int p1), .val (.int p2), .val (.int p3), .val (.int p4), .val (.int w1), .val (.int w2), .val (.int w3), .val (.int w4), .val (.int w5), .val (.ref ad12), .val (.ref ad42)] [(.int (1 : Int32))]))
  refine OwnWp.step (U' := T85.setTop (mkF m 250 #[.val (.int p1), .val (.int p2), .val (.int p3), .val (.int p4), .val (.int w1), .val (.int w2), .val (.int w3), .val (.int w4), .val (.int w5), .val (.ref ad12), .val (.ref ad42)] [(.ref ad42), (.int w5), (.int w1), (.int w4), (.int w3), (.int (1 : Int32)), (.ref ad12)])) (fun t k => ?_) ?_
  · show Steps p.tables e below (T85.setTop (mkF m 234 #[.val (.int p1), .val (.int p2), .val (.int p3), .val (.int p4), .val (.int w1), .val (.int w2), .val (.int w3), .val (.int w4), .val (.int w5), .val (.ref ad12), .val (.ref ad42)] [(.int (1 : Int32))])) _
    refine XS.ifNo X85.here hx rfl (hb hby at_234) rfl (XT.i0_eq_f (by decide)) ?_
    show Steps p.tables e below (T85.setTop (mkF m 237 #[.val (.int p1), .val (.int p2), .val (.int p3), .val (.int p4), .val (.int w1), .val (.int w2), .val (.int w3), .val (.int w4), .val (.int w5), .val (.ref ad12), .val (.ref ad42)] [])) _
    refine XS.aload X85.here hx rfl (hb hby at_237) rfl rfl ?_
    show Steps p.tables e below (T85.setTop (mkF m 239 #[.val (.int p1), .val (.int p2), .val (.int p3), .val (.int p4), .val (.int w1), .val (.int w2), .val (.int w3), .val (.int w4), .val (.int w5), .val (.ref ad12), .val (.ref ad42)] [(.ref ad12)])) _
    refine XT.iconstV X85.here hx rfl (1 : Int32) (hb hby at_239) rfl ?_
    show Steps p.tables e below (T85.setTop (mkF m 240 #[.val (.int p1), .val (.int p2), .val (.int p3), .val (.int p4), .val (.int w1), .val (.int w2), .val (.int w3), .val (.int w4), .val (.int w5), .val (.ref ad12), .val (.ref ad42)] [(.int (1 : Int32)), (.ref ad12)])) _
    refine XS.iload X85.here hx rfl (hb hby at_240) rfl ?_
    show Steps p.tables e below (T85.setTop (mkF m 242 #[.val (.int p1), .val (.int p2), .val (.int p3), .val (.int p4), .val (.int w1), .val (.int w2), .val (.int w3), .val (.int w4), .val (.int w5), .val (.ref ad12), .val (.ref ad42)] [(.int w3), (.int (1 : Int32)), (.ref ad12)])) _
    refine XS.iload X85.here hx rfl (hb hby at_242) rfl ?_
    show Steps p.tables e below (T85.setTop (mkF m 244 #[.val (.int p1), .val (.int p2), .val (.int p3), .val (.int p4), .val (.int w1), .val (.int w2), .val (.int w3), .val (.int w4), .val (.int w5), .val (.ref ad12), .val (.ref ad42)] [(.int w4), (.int w3), (.int (1 : Int32)), (.ref ad12)])) _
    refine XS.iload X85.here hx rfl (hb hby at_244) rfl ?_
    show Steps p.tables e below (T85.setTop (mkF m 246 #[.val (.int p1), .val (.int p2), .val (.int p3), .val (.int p4), .val (.int w1), .val (.int w2), .val (.int w3), .val (.int w4), .val (.int w5), .val (.ref ad12), .val (.ref ad42)] [(.int w1), (.int w4), (.int w3), (.int (1 : Int32)), (.ref ad12)])) _
    refine XS.iload X85.here hx rfl (hb hby at_246) rfl ?_
    show Steps p.tables e below (T85.setTop (mkF m 248 #[.val (.int p1), .val (.int p2), .val (.int p3), .val (.int p4), .val (.int w1), .val (.int w2), .val (.int w3), .val (.int w4), .val (.int w5), .val (.ref ad12), .val (.ref ad42)] [(.int w5), (.int w1), (.int w4), (.int w3), (.int (1 : Int32)), (.ref ad12)])) _
    refine XS.aload X85.here hx rfl (hb hby at_248) rfl rfl ?_
    show Steps p.tables e below (T85.setTop (mkF m 250 #[.val (.int p1), .val (.int p2), .val (.int p3), .val (.int p4), .val (.int w1), .val (.int w2), .val (.int w3), .val (.int w4), .val (.int w5), .val (.ref ad12), .val (.ref ad42)] [(.ref ad42), (.int w5), (.int w1), (.int w4), (.int w3), (.int (1 : Int32)), (.ref ad12)])) _
    exact k
  obtain ⟨_, _, ⟨T86, L86, k86, n86⟩, -, X86, ⟨Lc86, hQ86, l86, y86, z86⟩, st86⟩ := Jvm.LawKit.callS X85 hx (y := (⟨"com/example/kalend/kalend/util/DigitsWritePinLaw", "ok", "([CIIIIC[J)Z"⟩ : MethodName)) hown (mvT hZ (hw _ (List.mem_of_getElem? (i := 19) rfl))) (mvT hZ (hw _ (List.mem_of_getElem? (i := 20) rfl))) (mvT hZ (hw _ (List.mem_of_getElem? (i := 21) rfl))) (mvT hZ (hw _ (List.mem_of_getElem? (i := 22) rfl))) (by decide) (backOf (W := 0) (rm2 l Z a0 hw [] ad12 (1 : Int32) w3 w4 w1 w5 ad42 g82 T82.heap n0 Z82 ag82 f84 (by decide) hv ⟨hbg, hbe, he, hwd⟩ (hga 1) (hgb 1)) hZ (hw _ (List.mem_of_getElem? (i := 22) rfl)) (hw _ (List.mem_of_getElem? (i := 21) rfl)) (by decide) (by decide)) (g := (mkF m 250 #[.val (.int p1), .val (.int p2), .val (.int p3), .val (.int p4), .val (.int w1), .val (.int w2), .val (.int w3), .val (.int w4), .val (.int w5), .val (.ref ad12), .val (.ref ad42)] [(.ref ad42), (.int w5), (.int w1), (.int w4), (.int w3), (.int (1 : Int32)), (.ref ad12)])) rfl (by rw [hml]; rfl) (argsL := [(.ref ad12), (.int (1 : Int32)), (.int w3), (.int w4), (.int w1), (.int w5), (.ref ad42)]) (rest := []) (lenOf pd_2 rfl) rfl (by show 2 * 0 + _ ≤ _; exact Nat.le_of_eq rfl) (hb hby at_250) (fun _ _ => ⟨rfl, eh85, (by dsimp only [Pt.cells]; decide), (by dsimp only [Pt.slots]; decide)⟩)
  dsimp only [Pt.U, Pt.locs, Pt.cells, Pt.slots] at X86 l86 y86 z86 st86 hQ86
  subst l86 y86 z86
  obtain ⟨rfl, Nc86, hp86⟩ := hQ86
  have N86 := Fr.app N85 Nc86
  refine OwnWp.step st86 ?_
  have eh86 : T86.heap = T82.heap := hp86
  show OwnWp p e below s _ _ _ (T86.setTop (mkF m 253 #[.val (.int p1), .val (.int p2), .val (.int p3), .val (.int p4), .val (.int w1), .val (.int w2), .val (.int w3), .val (.int w4), .val (.int w5), .val (.ref ad12), .val (.ref ad42)] [(.int (1 : Int32))]))
  refine OwnWp.step (U' := T86.setTop (mkF m 269 #[.val (.int p1), .val (.int p2), .val (.int p3), .val (.int p4), .val (.int w1), .val (.int w2), .val (.int w3), .val (.int w4), .val (.int w5), .val (.ref ad12), .val (.ref ad42)] [(.ref ad42), (.int w5), (.int w1), (.int w4), (.int w3), (.int (2 : Int32)), (.ref ad12)])) (fun t k => ?_) ?_
  · show Steps p.tables e below (T86.setTop (mkF m 253 #[.val (.int p1), .val (.int p2), .val (.int p3), .val (.int p4), .val (.int w1), .val (.int w2), .val (.int w3), .val (.int w4), .val (.int w5), .val (.ref ad12), .val (.ref ad42)] [(.int (1 : Int32))])) _
    refine XS.ifNo X86.here hx rfl (hb hby at_253) rfl (XT.i0_eq_f (by decide)) ?_
    show Steps p.tables e below (T86.setTop (mkF m 256 #[.val (.int p1), .val (.int p2), .val (.int p3), .val (.int p4), .val (.int w1), .val (.int w2), .val (.int w3), .val (.int w4), .val (.int w5), .val (.ref ad12), .val (.ref ad42)] [])) _
    refine XS.aload X86.here hx rfl (hb hby at_256) rfl rfl ?_
    show Steps p.tables e below (T86.setTop (mkF m 258 #[.val (.int p1), .val (.int p2), .val (.int p3), .val (.int p4), .val (.int w1), .val (.int w2), .val (.int w3), .val (.int w4), .val (.int w5), .val (.ref ad12), .val (.ref ad42)] [(.ref ad12)])) _
    refine XT.iconstV X86.here hx rfl (2 : Int32) (hb hby at_258) rfl ?_
    show Steps p.tables e below (T86.setTop (mkF m 259 #[.val (.int p1), .val (.int p2), .val (.int p3), .val (.int p4), .val (.int w1), .val (.int w2), .val (.int w3), .val (.int w4), .val (.int w5), .val (.ref ad12), .val (.ref ad42)] [(.int (2 : Int32)), (.ref ad12)])) _
    refine XS.iload X86.here hx rfl (hb hby at_259) rfl ?_
    show Steps p.tables e below (T86.setTop (mkF m 261 #[.val (.int p1), .val (.int p2), .val (.int p3), .val (.int p4), .val (.int w1), .val (.int w2), .val (.int w3), .val (.int w4), .val (.int w5), .val (.ref ad12), .val (.ref ad42)] [(.int w3), (.int (2 : Int32)), (.ref ad12)])) _
    refine XS.iload X86.here hx rfl (hb hby at_261) rfl ?_
    show Steps p.tables e below (T86.setTop (mkF m 263 #[.val (.int p1), .val (.int p2), .val (.int p3), .val (.int p4), .val (.int w1), .val (.int w2), .val (.int w3), .val (.int w4), .val (.int w5), .val (.ref ad12), .val (.ref ad42)] [(.int w4), (.int w3), (.int (2 : Int32)), (.ref ad12)])) _
    refine XS.iload X86.here hx rfl (hb hby at_263) rfl ?_
    show Steps p.tables e below (T86.setTop (mkF m 265 #[.val (.int p1), .val (.int p2), .val (.int p3), .val (.int p4), .val (.int w1), .val (.int w2), .val (.int w3), .val (.int w4), .val (.int w5), .val (.ref ad12), .val (.ref ad42)] [(.int w1), (.int w4), (.int w3), (.int (2 : Int32)), (.ref ad12)])) _
    refine XS.iload X86.here hx rfl (hb hby at_265) rfl ?_
    show Steps p.tables e below (T86.setTop (mkF m 267 #[.val (.int p1), .val (.int p2), .val (.int p3), .val (.int p4), .val (.int w1), .val (.int w2), .val (.int w3), .val (.int w4), .val (.int w5), .val (.ref ad12), .val (.ref ad42)] [(.int w5), (.int w1), (.int w4), (.int w3), (.int (2 : Int32)), (.ref ad12)])) _
    refine XS.aload X86.here hx rfl (hb hby at_267) rfl rfl ?_
    show Steps p.tables e below (T86.setTop (mkF m 269 #[.val (.int p1), .val (.int p2), .val (.int p3), .val (.int p4), .val (.int w1), .val (.int w2), .val (.int w3), .val (.int w4), .val (.int w5), .val (.ref ad12), .val (.ref ad42)] [(.ref ad42), (.int w5), (.int w1), (.int w4), (.int w3), (.int (2 : Int32)), (.ref ad12)])) _
    exact k
  obtain ⟨_, _, ⟨T87, L87, k87, n87⟩, -, X87, ⟨Lc87, hQ87, l87, y87, z87⟩, st87⟩ := Jvm.LawKit.callS X86 hx (y := (⟨"com/example/kalend/kalend/util/DigitsWritePinLaw", "ok", "([CIIIIC[J)Z"⟩ : MethodName)) hown (mvT hZ (hw _ (List.mem_of_getElem? (i := 19) rfl))) (mvT hZ (hw _ (List.mem_of_getElem? (i := 20) rfl))) (mvT hZ (hw _ (List.mem_of_getElem? (i := 21) rfl))) (mvT hZ (hw _ (List.mem_of_getElem? (i := 22) rfl))) (by decide) (backOf (W := 0) (rm2 l Z a0 hw [] ad12 (2 : Int32) w3 w4 w1 w5 ad42 g82 T82.heap n0 Z82 ag82 f84 (by decide) hv ⟨hbg, hbe, he, hwd⟩ (hga 2) (hgb 2)) hZ (hw _ (List.mem_of_getElem? (i := 22) rfl)) (hw _ (List.mem_of_getElem? (i := 21) rfl)) (by decide) (by decide)) (g := (mkF m 269 #[.val (.int p1), .val (.int p2), .val (.int p3), .val (.int p4), .val (.int w1), .val (.int w2), .val (.int w3), .val (.int w4), .val (.int w5), .val (.ref ad12), .val (.ref ad42)] [(.ref ad42), (.int w5), (.int w1), (.int w4), (.int w3), (.int (2 : Int32)), (.ref ad12)])) rfl (by rw [hml]; rfl) (argsL := [(.ref ad12), (.int (2 : Int32)), (.int w3), (.int w4), (.int w1), (.int w5), (.ref ad42)]) (rest := []) (lenOf pd_2 rfl) rfl (by show 2 * 0 + _ ≤ _; exact Nat.le_of_eq rfl) (hb hby at_269) (fun _ _ => ⟨rfl, eh86, (by dsimp only [Pt.cells]; decide), (by dsimp only [Pt.slots]; decide)⟩)
  dsimp only [Pt.U, Pt.locs, Pt.cells, Pt.slots] at X87 l87 y87 z87 st87 hQ87
  subst l87 y87 z87
  obtain ⟨rfl, Nc87, hp87⟩ := hQ87
  have N87 := Fr.app N86 Nc87
  refine OwnWp.step st87 ?_
  have eh87 : T87.heap = T82.heap := hp87
  show OwnWp p e below s _ _ _ (T87.setTop (mkF m 272 #[.val (.int p1), .val (.int p2), .val (.int p3), .val (.int p4), .val (.int w1), .val (.int w2), .val (.int w3), .val (.int w4), .val (.int w5), .val (.ref ad12), .val (.ref ad42)] [(.int (1 : Int32))]))
  refine OwnWp.step (U' := T87.setTop (mkF m 288 #[.val (.int p1), .val (.int p2), .val (.int p3), .val (.int p4), .val (.int w1), .val (.int w2), .val (.int w3), .val (.int w4), .val (.int w5), .val (.ref ad12), .val (.ref ad42)] [(.ref ad42), (.int w5), (.int w1), (.int w4), (.int w3), (.int (3 : Int32)), (.ref ad12)])) (fun t k => ?_) ?_
  · show Steps p.tables e below (T87.setTop (mkF m 272 #[.val (.int p1), .val (.int p2), .val (.int p3), .val (.int p4), .val (.int w1), .val (.int w2), .val (.int w3), .val (.int w4), .val (.int w5), .val (.ref ad12), .val (.ref ad42)] [(.int (1 : Int32))])) _
    refine XS.ifNo X87.here hx rfl (hb hby at_272) rfl (XT.i0_eq_f (by decide)) ?_
    show Steps p.tables e below (T87.setTop (mkF m 275 #[.val (.int p1), .val (.int p2), .val (.int p3), .val (.int p4), .val (.int w1), .val (.int w2), .val (.int w3), .val (.int w4), .val (.int w5), .val (.ref ad12), .val (.ref ad42)] [])) _
    refine XS.aload X87.here hx rfl (hb hby at_275) rfl rfl ?_
    show Steps p.tables e below (T87.setTop (mkF m 277 #[.val (.int p1), .val (.int p2), .val (.int p3), .val (.int p4), .val (.int w1), .val (.int w2), .val (.int w3), .val (.int w4), .val (.int w5), .val (.ref ad12), .val (.ref ad42)] [(.ref ad12)])) _
    refine XT.iconstV X87.here hx rfl (3 : Int32) (hb hby at_277) rfl ?_
    show Steps p.tables e below (T87.setTop (mkF m 278 #[.val (.int p1), .val (.int p2), .val (.int p3), .val (.int p4), .val (.int w1), .val (.int w2), .val (.int w3), .val (.int w4), .val (.int w5), .val (.ref ad12), .val (.ref ad42)] [(.int (3 : Int32)), (.ref ad12)])) _
    refine XS.iload X87.here hx rfl (hb hby at_278) rfl ?_
    show Steps p.tables e below (T87.setTop (mkF m 280 #[.val (.int p1), .val (.int p2), .val (.int p3), .val (.int p4), .val (.int w1), .val (.int w2), .val (.int w3), .val (.int w4), .val (.int w5), .val (.ref ad12), .val (.ref ad42)] [(.int w3), (.int (3 : Int32)), (.ref ad12)])) _
    refine XS.iload X87.here hx rfl (hb hby at_280) rfl ?_
    show Steps p.tables e below (T87.setTop (mkF m 282 #[.val (.int p1), .val (.int p2), .val (.int p3), .val (.int p4), .val (.int w1), .val (.int w2), .val (.int w3), .val (.int w4), .val (.int w5), .val (.ref ad12), .val (.ref ad42)] [(.int w4), (.int w3), (.int (3 : Int32)), (.ref ad12)])) _
    refine XS.iload X87.here hx rfl (hb hby at_282) rfl ?_
    show Steps p.tables e below (T87.setTop (mkF m 284 #[.val (.int p1), .val (.int p2), .val (.int p3), .val (.int p4), .val (.int w1), .val (.int w2), .val (.int w3), .val (.int w4), .val (.int w5), .val (.ref ad12), .val (.ref ad42)] [(.int w1), (.int w4), (.int w3), (.int (3 : Int32)), (.ref ad12)])) _
    refine XS.iload X87.here hx rfl (hb hby at_284) rfl ?_
    show Steps p.tables e below (T87.setTop (mkF m 286 #[.val (.int p1), .val (.int p2), .val (.int p3), .val (.int p4), .val (.int w1), .val (.int w2), .val (.int w3), .val (.int w4), .val (.int w5), .val (.ref ad12), .val (.ref ad42)] [(.int w5), (.int w1), (.int w4), (.int w3), (.int (3 : Int32)), (.ref ad12)])) _
    refine XS.aload X87.here hx rfl (hb hby at_286) rfl rfl ?_
    show Steps p.tables e below (T87.setTop (mkF m 288 #[.val (.int p1), .val (.int p2), .val (.int p3), .val (.int p4), .val (.int w1), .val (.int w2), .val (.int w3), .val (.int w4), .val (.int w5), .val (.ref ad12), .val (.ref ad42)] [(.ref ad42), (.int w5), (.int w1), (.int w4), (.int w3), (.int (3 : Int32)), (.ref ad12)])) _
    exact k
  obtain ⟨_, _, ⟨T88, L88, k88, n88⟩, -, X88, ⟨Lc88, hQ88, l88, y88, z88⟩, st88⟩ := Jvm.LawKit.callS X87 hx (y := (⟨"com/example/kalend/kalend/util/DigitsWritePinLaw", "ok", "([CIIIIC[J)Z"⟩ : MethodName)) hown (mvT hZ (hw _ (List.mem_of_getElem? (i := 19) rfl))) (mvT hZ (hw _ (List.mem_of_getElem? (i := 20) rfl))) (mvT hZ (hw _ (List.mem_of_getElem? (i := 21) rfl))) (mvT hZ (hw _ (List.mem_of_getElem? (i := 22) rfl))) (by decide) (backOf (W := 0) (rm2 l Z a0 hw [] ad12 (3 : Int32) w3 w4 w1 w5 ad42 g82 T82.heap n0 Z82 ag82 f84 (by decide) hv ⟨hbg, hbe, he, hwd⟩ (hga 3) (hgb 3)) hZ (hw _ (List.mem_of_getElem? (i := 22) rfl)) (hw _ (List.mem_of_getElem? (i := 21) rfl)) (by decide) (by decide)) (g := (mkF m 288 #[.val (.int p1), .val (.int p2), .val (.int p3), .val (.int p4), .val (.int w1), .val (.int w2), .val (.int w3), .val (.int w4), .val (.int w5), .val (.ref ad12), .val (.ref ad42)] [(.ref ad42), (.int w5), (.int w1), (.int w4), (.int w3), (.int (3 : Int32)), (.ref ad12)])) rfl (by rw [hml]; rfl) (argsL := [(.ref ad12), (.int (3 : Int32)), (.int w3), (.int w4), (.int w1), (.int w5), (.ref ad42)]) (rest := []) (lenOf pd_2 rfl) rfl (by show 2 * 0 + _ ≤ _; exact Nat.le_of_eq rfl) (hb hby at_288) (fun _ _ => ⟨rfl, eh87, (by dsimp only [Pt.cells]; decide), (by dsimp only [Pt.slots]; decide)⟩)
  dsimp only [Pt.U, Pt.locs, Pt.cells, Pt.slots] at X88 l88 y88 z88 st88 hQ88
  subst l88 y88 z88
  obtain ⟨rfl, Nc88, hp88⟩ := hQ88
  have N88 := Fr.app N87 Nc88
  refine OwnWp.step st88 ?_
  have eh88 : T88.heap = T82.heap := hp88
  show OwnWp p e below s _ _ _ (T88.setTop (mkF m 291 #[.val (.int p1), .val (.int p2), .val (.int p3), .val (.int p4), .val (.int w1), .val (.int w2), .val (.int w3), .val (.int w4), .val (.int w5), .val (.ref ad12), .val (.ref ad42)] [(.int (1 : Int32))]))
  refine OwnWp.step (U' := T88.setTop (mkF m 307 #[.val (.int p1), .val (.int p2), .val (.int p3), .val (.int p4), .val (.int w1), .val (.int w2), .val (.int w3), .val (.int w4), .val (.int w5), .val (.ref ad12), .val (.ref ad42)] [(.ref ad42), (.int w5), (.int w1), (.int w4), (.int w3), (.int (4 : Int32)), (.ref ad12)])) (fun t k => ?_) ?_
  · show Steps p.tables e below (T88.setTop (mkF m 291 #[.val (.int p1), .val (.int p2), .val (.int p3), .val (.int p4), .val (.int w1), .val (.int w2), .val (.int w3), .val (.int w4), .val (.int w5), .val (.ref ad12), .val (.ref ad42)] [(.int (1 : Int32))])) _
    refine XS.ifNo X88.here hx rfl (hb hby at_291) rfl (XT.i0_eq_f (by decide)) ?_
    show Steps p.tables e below (T88.setTop (mkF m 294 #[.val (.int p1), .val (.int p2), .val (.int p3), .val (.int p4), .val (.int w1), .val (.int w2), .val (.int w3), .val (.int w4), .val (.int w5), .val (.ref ad12), .val (.ref ad42)] [])) _
    refine XS.aload X88.here hx rfl (hb hby at_294) rfl rfl ?_
    show Steps p.tables e below (T88.setTop (mkF m 296 #[.val (.int p1), .val (.int p2), .val (.int p3), .val (.int p4), .val (.int w1), .val (.int w2), .val (.int w3), .val (.int w4), .val (.int w5), .val (.ref ad12), .val (.ref ad42)] [(.ref ad12)])) _
    refine XT.iconstV X88.here hx rfl (4 : Int32) (hb hby at_296) rfl ?_
    show Steps p.tables e below (T88.setTop (mkF m 297 #[.val (.int p1), .val (.int p2), .val (.int p3), .val (.int p4), .val (.int w1), .val (.int w2), .val (.int w3), .val (.int w4), .val (.int w5), .val (.ref ad12), .val (.ref ad42)] [(.int (4 : Int32)), (.ref ad12)])) _
    refine XS.iload X88.here hx rfl (hb hby at_297) rfl ?_
    show Steps p.tables e below (T88.setTop (mkF m 299 #[.val (.int p1), .val (.int p2), .val (.int p3), .val (.int p4), .val (.int w1), .val (.int w2), .val (.int w3), .val (.int w4), .val (.int w5), .val (.ref ad12), .val (.ref ad42)] [(.int w3), (.int (4 : Int32)), (.ref ad12)])) _
    refine XS.iload X88.here hx rfl (hb hby at_299) rfl ?_
    show Steps p.tables e below (T88.setTop (mkF m 301 #[.val (.int p1), .val (.int p2), .val (.int p3), .val (.int p4), .val (.int w1), .val (.int w2), .val (.int w3), .val (.int w4), .val (.int w5), .val (.ref ad12), .val (.ref ad42)] [(.int w4), (.int w3), (.int (4 : Int32)), (.ref ad12)])) _
    refine XS.iload X88.here hx rfl (hb hby at_301) rfl ?_
    show Steps p.tables e below (T88.setTop (mkF m 303 #[.val (.int p1), .val (.int p2), .val (.int p3), .val (.int p4), .val (.int w1), .val (.int w2), .val (.int w3), .val (.int w4), .val (.int w5), .val (.ref ad12), .val (.ref ad42)] [(.int w1), (.int w4), (.int w3), (.int (4 : Int32)), (.ref ad12)])) _
    refine XS.iload X88.here hx rfl (hb hby at_303) rfl ?_
    show Steps p.tables e below (T88.setTop (mkF m 305 #[.val (.int p1), .val (.int p2), .val (.int p3), .val (.int p4), .val (.int w1), .val (.int w2), .val (.int w3), .val (.int w4), .val (.int w5), .val (.ref ad12), .val (.ref ad42)] [(.int w5), (.int w1), (.int w4), (.int w3), (.int (4 : Int32)), (.ref ad12)])) _
    refine XS.aload X88.here hx rfl (hb hby at_305) rfl rfl ?_
    show Steps p.tables e below (T88.setTop (mkF m 307 #[.val (.int p1), .val (.int p2), .val (.int p3), .val (.int p4), .val (.int w1), .val (.int w2), .val (.int w3), .val (.int w4), .val (.int w5), .val (.ref ad12), .val (.ref ad42)] [(.ref ad42), (.int w5), (.int w1), (.int w4), (.int w3), (.int (4 : Int32)), (.ref ad12)])) _
    exact k
  obtain ⟨_, _, ⟨T89, L89, k89, n89⟩, -, X89, ⟨Lc89, hQ89, l89, y89, z89⟩, st89⟩ := Jvm.LawKit.callS X88 hx (y := (⟨"com/example/kalend/kalend/util/DigitsWritePinLaw", "ok", "([CIIIIC[J)Z"⟩ : MethodName)) hown (mvT hZ (hw _ (List.mem_of_getElem? (i := 19) rfl))) (mvT hZ (hw _ (List.mem_of_getElem? (i := 20) rfl))) (mvT hZ (hw _ (List.mem_of_getElem? (i := 21) rfl))) (mvT hZ (hw _ (List.mem_of_getElem? (i := 22) rfl))) (by decide) (backOf (W := 0) (rm2 l Z a0 hw [] ad12 (4 : Int32) w3 w4 w1 w5 ad42 g82 T82.heap n0 Z82 ag82 f84 (by decide) hv ⟨hbg, hbe, he, hwd⟩ (hga 4) (hgb 4)) hZ (hw _ (List.mem_of_getElem? (i := 22) rfl)) (hw _ (List.mem_of_getElem? (i := 21) rfl)) (by decide) (by decide)) (g := (mkF m 307 #[.val (.int p1), .val (.int p2), .val (.int p3), .val (.int p4), .val (.int w1), .val (.int w2), .val (.int w3), .val (.int w4), .val (.int w5), .val (.ref ad12), .val (.ref ad42)] [(.ref ad42), (.int w5), (.int w1), (.int w4), (.int w3), (.int (4 : Int32)), (.ref ad12)])) rfl (by rw [hml]; rfl) (argsL := [(.ref ad12), (.int (4 : Int32)), (.int w3), (.int w4), (.int w1), (.int w5), (.ref ad42)]) (rest := []) (lenOf pd_2 rfl) rfl (by show 2 * 0 + _ ≤ _; exact Nat.le_of_eq rfl) (hb hby at_307) (fun _ _ => ⟨rfl, eh88, (by dsimp only [Pt.cells]; decide), (by dsimp only [Pt.slots]; decide)⟩)
  dsimp only [Pt.U, Pt.locs, Pt.cells, Pt.slots] at X89 l89 y89 z89 st89 hQ89
  subst l89 y89 z89
  obtain ⟨rfl, Nc89, hp89⟩ := hQ89
  have N89 := Fr.app N88 Nc89
  refine OwnWp.step st89 ?_
  have eh89 : T89.heap = T82.heap := hp89
  show OwnWp p e below s _ _ _ (T89.setTop (mkF m 310 #[.val (.int p1), .val (.int p2), .val (.int p3), .val (.int p4), .val (.int w1), .val (.int w2), .val (.int w3), .val (.int w4), .val (.int w5), .val (.ref ad12), .val (.ref ad42)] [(.int (1 : Int32))]))
  refine OwnWp.step (U' := T89.setTop (mkF m 326 #[.val (.int p1), .val (.int p2), .val (.int p3), .val (.int p4), .val (.int w1), .val (.int w2), .val (.int w3), .val (.int w4), .val (.int w5), .val (.ref ad12), .val (.ref ad42)] [(.ref ad42), (.int w5), (.int w1), (.int w4), (.int w3), (.int (5 : Int32)), (.ref ad12)])) (fun t k => ?_) ?_
  · show Steps p.tables e below (T89.setTop (mkF m 310 #[.val (.int p1), .val (.int p2), .val (.int p3), .val (.int p4), .val (.int w1), .val (.int w2), .val (.int w3), .val (.int w4), .val (.int w5), .val (.ref ad12), .val (.ref ad42)] [(.int (1 : Int32))])) _
    refine XS.ifNo X89.here hx rfl (hb hby at_310) rfl (XT.i0_eq_f (by decide)) ?_
    show Steps p.tables e below (T89.setTop (mkF m 313 #[.val (.int p1), .val (.int p2), .val (.int p3), .val (.int p4), .val (.int w1), .val (.int w2), .val (.int w3), .val (.int w4), .val (.int w5), .val (.ref ad12), .val (.ref ad42)] [])) _
    refine XS.aload X89.here hx rfl (hb hby at_313) rfl rfl ?_
    show Steps p.tables e below (T89.setTop (mkF m 315 #[.val (.int p1), .val (.int p2), .val (.int p3), .val (.int p4), .val (.int w1), .val (.int w2), .val (.int w3), .val (.int w4), .val (.int w5), .val (.ref ad12), .val (.ref ad42)] [(.ref ad12)])) _
    refine XT.iconstV X89.here hx rfl (5 : Int32) (hb hby at_315) rfl ?_
    show Steps p.tables e below (T89.setTop (mkF m 316 #[.val (.int p1), .val (.int p2), .val (.int p3), .val (.int p4), .val (.int w1), .val (.int w2), .val (.int w3), .val (.int w4), .val (.int w5), .val (.ref ad12), .val (.ref ad42)] [(.int (5 : Int32)), (.ref ad12)])) _
    refine XS.iload X89.here hx rfl (hb hby at_316) rfl ?_
    show Steps p.tables e below (T89.setTop (mkF m 318 #[.val (.int p1), .val (.int p2), .val (.int p3), .val (.int p4), .val (.int w1), .val (.int w2), .val (.int w3), .val (.int w4), .val (.int w5), .val (.ref ad12), .val (.ref ad42)] [(.int w3), (.int (5 : Int32)), (.ref ad12)])) _
    refine XS.iload X89.here hx rfl (hb hby at_318) rfl ?_
    show Steps p.tables e below (T89.setTop (mkF m 320 #[.val (.int p1), .val (.int p2), .val (.int p3), .val (.int p4), .val (.int w1), .val (.int w2), .val (.int w3), .val (.int w4), .val (.int w5), .val (.ref ad12), .val (.ref ad42)] [(.int w4), (.int w3), (.int (5 : Int32)), (.ref ad12)])) _
    refine XS.iload X89.here hx rfl (hb hby at_320) rfl ?_
    show Steps p.tables e below (T89.setTop (mkF m 322 #[.val (.int p1), .val (.int p2), .val (.int p3), .val (.int p4), .val (.int w1), .val (.int w2), .val (.int w3), .val (.int w4), .val (.int w5), .val (.ref ad12), .val (.ref ad42)] [(.int w1), (.int w4), (.int w3), (.int (5 : Int32)), (.ref ad12)])) _
    refine XS.iload X89.here hx rfl (hb hby at_322) rfl ?_
    show Steps p.tables e below (T89.setTop (mkF m 324 #[.val (.int p1), .val (.int p2), .val (.int p3), .val (.int p4), .val (.int w1), .val (.int w2), .val (.int w3), .val (.int w4), .val (.int w5), .val (.ref ad12), .val (.ref ad42)] [(.int w5), (.int w1), (.int w4), (.int w3), (.int (5 : Int32)), (.ref ad12)])) _
    refine XS.aload X89.here hx rfl (hb hby at_324) rfl rfl ?_
    show Steps p.tables e below (T89.setTop (mkF m 326 #[.val (.int p1), .val (.int p2), .val (.int p3), .val (.int p4), .val (.int w1), .val (.int w2), .val (.int w3), .val (.int w4), .val (.int w5), .val (.ref ad12), .val (.ref ad42)] [(.ref ad42), (.int w5), (.int w1), (.int w4), (.int w3), (.int (5 : Int32)), (.ref ad12)])) _
    exact k
  obtain ⟨_, _, ⟨T90, L90, k90, n90⟩, -, X90, ⟨Lc90, hQ90, l90, y90, z90⟩, st90⟩ := Jvm.LawKit.callS X89 hx (y := (⟨"com/example/kalend/kalend/util/DigitsWritePinLaw", "ok", "([CIIIIC[J)Z"⟩ : MethodName)) hown (mvT hZ (hw _ (List.mem_of_getElem? (i := 19) rfl))) (mvT hZ (hw _ (List.mem_of_getElem? (i := 20) rfl))) (mvT hZ (hw _ (List.mem_of_getElem? (i := 21) rfl))) (mvT hZ (hw _ (List.mem_of_getElem? (i := 22) rfl))) (by decide) (backOf (W := 0) (rm2 l Z a0 hw [] ad12 (5 : Int32) w3 w4 w1 w5 ad42 g82 T82.heap n0 Z82 ag82 f84 (by decide) hv ⟨hbg, hbe, he, hwd⟩ (hga 5) (hgb 5)) hZ (hw _ (List.mem_of_getElem? (i := 22) rfl)) (hw _ (List.mem_of_getElem? (i := 21) rfl)) (by decide) (by decide)) (g := (mkF m 326 #[.val (.int p1), .val (.int p2), .val (.int p3), .val (.int p4), .val (.int w1), .val (.int w2), .val (.int w3), .val (.int w4), .val (.int w5), .val (.ref ad12), .val (.ref ad42)] [(.ref ad42), (.int w5), (.int w1), (.int w4), (.int w3), (.int (5 : Int32)), (.ref ad12)])) rfl (by rw [hml]; rfl) (argsL := [(.ref ad12), (.int (5 : Int32)), (.int w3), (.int w4), (.int w1), (.int w5), (.ref ad42)]) (rest := []) (lenOf pd_2 rfl) rfl (by show 2 * 0 + _ ≤ _; exact Nat.le_of_eq rfl) (hb hby at_326) (fun _ _ => ⟨rfl, eh89, (by dsimp only [Pt.cells]; decide), (by dsimp only [Pt.slots]; decide)⟩)
  dsimp only [Pt.U, Pt.locs, Pt.cells, Pt.slots] at X90 l90 y90 z90 st90 hQ90
  subst l90 y90 z90
  obtain ⟨rfl, Nc90, hp90⟩ := hQ90
  have N90 := Fr.app N89 Nc90
  refine OwnWp.step st90 ?_
  have eh90 : T90.heap = T82.heap := hp90
  show OwnWp p e below s _ _ _ (T90.setTop (mkF m 329 #[.val (.int p1), .val (.int p2), .val (.int p3), .val (.int p4), .val (.int w1), .val (.int w2), .val (.int w3), .val (.int w4), .val (.int w5), .val (.ref ad12), .val (.ref ad42)] [(.int (1 : Int32))]))
  refine OwnWp.step (U' := T90.setTop (mkF m 346 #[.val (.int p1), .val (.int p2), .val (.int p3), .val (.int p4), .val (.int w1), .val (.int w2), .val (.int w3), .val (.int w4), .val (.int w5), .val (.ref ad12), .val (.ref ad42)] [(.ref ad42), (.int w5), (.int w1), (.int w4), (.int w3), (.int (6 : Int32)), (.ref ad12)])) (fun t k => ?_) ?_
  · show Steps p.tables e below (T90.setTop (mkF m 329 #[.val (.int p1), .val (.int p2), .val (.int p3), .val (.int p4), .val (.int w1), .val (.int w2), .val (.int w3), .val (.int w4), .val (.int w5), .val (.ref ad12), .val (.ref ad42)] [(.int (1 : Int32))])) _
    refine XS.ifNo X90.here hx rfl (hb hby at_329) rfl (XT.i0_eq_f (by decide)) ?_
    show Steps p.tables e below (T90.setTop (mkF m 332 #[.val (.int p1), .val (.int p2), .val (.int p3), .val (.int p4), .val (.int w1), .val (.int w2), .val (.int w3), .val (.int w4), .val (.int w5), .val (.ref ad12), .val (.ref ad42)] [])) _
    refine XS.aload X90.here hx rfl (hb hby at_332) rfl rfl ?_
    show Steps p.tables e below (T90.setTop (mkF m 334 #[.val (.int p1), .val (.int p2), .val (.int p3), .val (.int p4), .val (.int w1), .val (.int w2), .val (.int w3), .val (.int w4), .val (.int w5), .val (.ref ad12), .val (.ref ad42)] [(.ref ad12)])) _
    refine XT.bipushV X90.here hx rfl (6 : Int32) (hb hby at_334) rfl ?_
    show Steps p.tables e below (T90.setTop (mkF m 336 #[.val (.int p1), .val (.int p2), .val (.int p3), .val (.int p4), .val (.int w1), .val (.int w2), .val (.int w3), .val (.int w4), .val (.int w5), .val (.ref ad12), .val (.ref ad42)] [(.int (6 : Int32)), (.ref ad12)])) _
    refine XS.iload X90.here hx rfl (hb hby at_336) rfl ?_
    show Steps p.tables e below (T90.setTop (mkF m 338 #[.val (.int p1), .val (.int p2), .val (.int p3), .val (.int p4), .val (.int w1), .val (.int w2), .val (.int w3), .val (.int w4), .val (.int w5), .val (.ref ad12), .val (.ref ad42)] [(.int w3), (.int (6 : Int32)), (.ref ad12)])) _
    refine XS.iload X90.here hx rfl (hb hby at_338) rfl ?_
    show Steps p.tables e below (T90.setTop (mkF m 340 #[.val (.int p1), .val (.int p2), .val (.int p3), .val (.int p4), .val (.int w1), .val (.int w2), .val (.int w3), .val (.int w4), .val (.int w5), .val (.ref ad12), .val (.ref ad42)] [(.int w4), (.int w3), (.int (6 : Int32)), (.ref ad12)])) _
    refine XS.iload X90.here hx rfl (hb hby at_340) rfl ?_
    show Steps p.tables e below (T90.setTop (mkF m 342 #[.val (.int p1), .val (.int p2), .val (.int p3), .val (.int p4), .val (.int w1), .val (.int w2), .val (.int w3), .val (.int w4), .val (.int w5), .val (.ref ad12), .val (.ref ad42)] [(.int w1), (.int w4), (.int w3), (.int (6 : Int32)), (.ref ad12)])) _
    refine XS.iload X90.here hx rfl (hb hby at_342) rfl ?_
    show Steps p.tables e below (T90.setTop (mkF m 344 #[.val (.int p1), .val (.int p2), .val (.int p3), .val (.int p4), .val (.int w1), .val (.int w2), .val (.int w3), .val (.int w4), .val (.int w5), .val (.ref ad12), .val (.ref ad42)] [(.int w5), (.int w1), (.int w4), (.int w3), (.int (6 : Int32)), (.ref ad12)])) _
    refine XS.aload X90.here hx rfl (hb hby at_344) rfl rfl ?_
    show Steps p.tables e below (T90.setTop (mkF m 346 #[.val (.int p1), .val (.int p2), .val (.int p3), .val (.int p4), .val (.int w1), .val (.int w2), .val (.int w3), .val (.int w4), .val (.int w5), .val (.ref ad12), .val (.ref ad42)] [(.ref ad42), (.int w5), (.int w1), (.int w4), (.int w3), (.int (6 : Int32)), (.ref ad12)])) _
    exact k
  obtain ⟨_, _, ⟨T91, L91, k91, n91⟩, -, X91, ⟨Lc91, hQ91, l91, y91, z91⟩, st91⟩ := Jvm.LawKit.callS X90 hx (y := (⟨"com/example/kalend/kalend/util/DigitsWritePinLaw", "ok", "([CIIIIC[J)Z"⟩ : MethodName)) hown (mvT hZ (hw _ (List.mem_of_getElem? (i := 19) rfl))) (mvT hZ (hw _ (List.mem_of_getElem? (i := 20) rfl))) (mvT hZ (hw _ (List.mem_of_getElem? (i := 21) rfl))) (mvT hZ (hw _ (List.mem_of_getElem? (i := 22) rfl))) (by decide) (backOf (W := 0) (rm2 l Z a0 hw [] ad12 (6 : Int32) w3 w4 w1 w5 ad42 g82 T82.heap n0 Z82 ag82 f84 (by decide) hv ⟨hbg, hbe, he, hwd⟩ (hga 6) (hgb 6)) hZ (hw _ (List.mem_of_getElem? (i := 22) rfl)) (hw _ (List.mem_of_getElem? (i := 21) rfl)) (by decide) (by decide)) (g := (mkF m 346 #[.val (.int p1), .val (.int p2), .val (.int p3), .val (.int p4), .val (.int w1), .val (.int w2), .val (.int w3), .val (.int w4), .val (.int w5), .val (.ref ad12), .val (.ref ad42)] [(.ref ad42), (.int w5), (.int w1), (.int w4), (.int w3), (.int (6 : Int32)), (.ref ad12)])) rfl (by rw [hml]; rfl) (argsL := [(.ref ad12), (.int (6 : Int32)), (.int w3), (.int w4), (.int w1), (.int w5), (.ref ad42)]) (rest := []) (lenOf pd_2 rfl) rfl (by show 2 * 0 + _ ≤ _; exact Nat.le_of_eq rfl) (hb hby at_346) (fun _ _ => ⟨rfl, eh90, (by dsimp only [Pt.cells]; decide), (by dsimp only [Pt.slots]; decide)⟩)
  dsimp only [Pt.U, Pt.locs, Pt.cells, Pt.slots] at X91 l91 y91 z91 st91 hQ91
  subst l91 y91 z91
  obtain ⟨rfl, Nc91, hp91⟩ := hQ91
  have N91 := Fr.app N90 Nc91
  refine OwnWp.step st91 ?_
  have eh91 : T91.heap = T82.heap := hp91
  show OwnWp p e below s _ _ _ (T91.setTop (mkF m 349 #[.val (.int p1), .val (.int p2), .val (.int p3), .val (.int p4), .val (.int w1), .val (.int w2), .val (.int w3), .val (.int w4), .val (.int w5), .val (.ref ad12), .val (.ref ad42)] [(.int (1 : Int32))]))
  refine OwnWp.step (U' := T91.setTop (mkF m 366 #[.val (.int p1), .val (.int p2), .val (.int p3), .val (.int p4), .val (.int w1), .val (.int w2), .val (.int w3), .val (.int w4), .val (.int w5), .val (.ref ad12), .val (.ref ad42)] [(.ref ad42), (.int w5), (.int w1), (.int w4), (.int w3), (.int (7 : Int32)), (.ref ad12)])) (fun t k => ?_) ?_
  · show Steps p.tables e below (T91.setTop (mkF m 349 #[.val (.int p1), .val (.int p2), .val (.int p3), .val (.int p4), .val (.int w1), .val (.int w2), .val (.int w3), .val (.int w4), .val (.int w5), .val (.ref ad12), .val (.ref ad42)] [(.int (1 : Int32))])) _
    refine XS.ifNo X91.here hx rfl (hb hby at_349) rfl (XT.i0_eq_f (by decide)) ?_
    show Steps p.tables e below (T91.setTop (mkF m 352 #[.val (.int p1), .val (.int p2), .val (.int p3), .val (.int p4), .val (.int w1), .val (.int w2), .val (.int w3), .val (.int w4), .val (.int w5), .val (.ref ad12), .val (.ref ad42)] [])) _
    refine XS.aload X91.here hx rfl (hb hby at_352) rfl rfl ?_
    show Steps p.tables e below (T91.setTop (mkF m 354 #[.val (.int p1), .val (.int p2), .val (.int p3), .val (.int p4), .val (.int w1), .val (.int w2), .val (.int w3), .val (.int w4), .val (.int w5), .val (.ref ad12), .val (.ref ad42)] [(.ref ad12)])) _
    refine XT.bipushV X91.here hx rfl (7 : Int32) (hb hby at_354) rfl ?_
    show Steps p.tables e below (T91.setTop (mkF m 356 #[.val (.int p1), .val (.int p2), .val (.int p3), .val (.int p4), .val (.int w1), .val (.int w2), .val (.int w3), .val (.int w4), .val (.int w5), .val (.ref ad12), .val (.ref ad42)] [(.int (7 : Int32)), (.ref ad12)])) _
    refine XS.iload X91.here hx rfl (hb hby at_356) rfl ?_
    show Steps p.tables e below (T91.setTop (mkF m 358 #[.val (.int p1), .val (.int p2), .val (.int p3), .val (.int p4), .val (.int w1), .val (.int w2), .val (.int w3), .val (.int w4), .val (.int w5), .val (.ref ad12), .val (.ref ad42)] [(.int w3), (.int (7 : Int32)), (.ref ad12)])) _
    refine XS.iload X91.here hx rfl (hb hby at_358) rfl ?_
    show Steps p.tables e below (T91.setTop (mkF m 360 #[.val (.int p1), .val (.int p2), .val (.int p3), .val (.int p4), .val (.int w1), .val (.int w2), .val (.int w3), .val (.int w4), .val (.int w5), .val (.ref ad12), .val (.ref ad42)] [(.int w4), (.int w3), (.int (7 : Int32)), (.ref ad12)])) _
    refine XS.iload X91.here hx rfl (hb hby at_360) rfl ?_
    show Steps p.tables e below (T91.setTop (mkF m 362 #[.val (.int p1), .val (.int p2), .val (.int p3), .val (.int p4), .val (.int w1), .val (.int w2), .val (.int w3), .val (.int w4), .val (.int w5), .val (.ref ad12), .val (.ref ad42)] [(.int w1), (.int w4), (.int w3), (.int (7 : Int32)), (.ref ad12)])) _
    refine XS.iload X91.here hx rfl (hb hby at_362) rfl ?_
    show Steps p.tables e below (T91.setTop (mkF m 364 #[.val (.int p1), .val (.int p2), .val (.int p3), .val (.int p4), .val (.int w1), .val (.int w2), .val (.int w3), .val (.int w4), .val (.int w5), .val (.ref ad12), .val (.ref ad42)] [(.int w5), (.int w1), (.int w4), (.int w3), (.int (7 : Int32)), (.ref ad12)])) _
    refine XS.aload X91.here hx rfl (hb hby at_364) rfl rfl ?_
    show Steps p.tables e below (T91.setTop (mkF m 366 #[.val (.int p1), .val (.int p2), .val (.int p3), .val (.int p4), .val (.int w1), .val (.int w2), .val (.int w3), .val (.int w4), .val (.int w5), .val (.ref ad12), .val (.ref ad42)] [(.ref ad42), (.int w5), (.int w1), (.int w4), (.int w3), (.int (7 : Int32)), (.ref ad12)])) _
    exact k
  obtain ⟨_, _, ⟨T92, L92, k92, n92⟩, -, X92, ⟨Lc92, hQ92, l92, y92, z92⟩, st92⟩ := Jvm.LawKit.callS X91 hx (y := (⟨"com/example/kalend/kalend/util/DigitsWritePinLaw", "ok", "([CIIIIC[J)Z"⟩ : MethodName)) hown (mvT hZ (hw _ (List.mem_of_getElem? (i := 19) rfl))) (mvT hZ (hw _ (List.mem_of_getElem? (i := 20) rfl))) (mvT hZ (hw _ (List.mem_of_getElem? (i := 21) rfl))) (mvT hZ (hw _ (List.mem_of_getElem? (i := 22) rfl))) (by decide) (backOf (W := 0) (rm2 l Z a0 hw [] ad12 (7 : Int32) w3 w4 w1 w5 ad42 g82 T82.heap n0 Z82 ag82 f84 (by decide) hv ⟨hbg, hbe, he, hwd⟩ (hga 7) (hgb 7)) hZ (hw _ (List.mem_of_getElem? (i := 22) rfl)) (hw _ (List.mem_of_getElem? (i := 21) rfl)) (by decide) (by decide)) (g := (mkF m 366 #[.val (.int p1), .val (.int p2), .val (.int p3), .val (.int p4), .val (.int w1), .val (.int w2), .val (.int w3), .val (.int w4), .val (.int w5), .val (.ref ad12), .val (.ref ad42)] [(.ref ad42), (.int w5), (.int w1), (.int w4), (.int w3), (.int (7 : Int32)), (.ref ad12)])) rfl (by rw [hml]; rfl) (argsL := [(.ref ad12), (.int (7 : Int32)), (.int w3), (.int w4), (.int w1), (.int w5), (.ref ad42)]) (rest := []) (lenOf pd_2 rfl) rfl (by show 2 * 0 + _ ≤ _; exact Nat.le_of_eq rfl) (hb hby at_366) (fun _ _ => ⟨rfl, eh91, (by dsimp only [Pt.cells]; decide), (by dsimp only [Pt.slots]; decide)⟩)
  dsimp only [Pt.U, Pt.locs, Pt.cells, Pt.slots] at X92 l92 y92 z92 st92 hQ92
  subst l92 y92 z92
  obtain ⟨rfl, Nc92, hp92⟩ := hQ92
  have N92 := Fr.app N91 Nc92
  refine OwnWp.step st92 ?_
  have eh92 : T92.heap = T82.heap := hp92
  show OwnWp p e below s _ _ _ (T92.setTop (mkF m 369 #[.val (.int p1), .val (.int p2), .val (.int p3), .val (.int p4), .val (.int w1), .val (.int w2), .val (.int w3), .val (.int w4), .val (.int w5), .val (.ref ad12), .val (.ref ad42)] [(.int (1 : Int32))]))
  refine OwnWp.step (U' := T92.setTop (mkF m 386 #[.val (.int p1), .val (.int p2), .val (.int p3), .val (.int p4), .val (.int w1), .val (.int w2), .val (.int w3), .val (.int w4), .val (.int w5), .val (.ref ad12), .val (.ref ad42)] [(.ref ad42), (.int w5), (.int w1), (.int w4), (.int w3), (.int (8 : Int32)), (.ref ad12)])) (fun t k => ?_) ?_
  · show Steps p.tables e below (T92.setTop (mkF m 369 #[.val (.int p1), .val (.int p2), .val (.int p3), .val (.int p4), .val (.int w1), .val (.int w2), .val (.int w3), .val (.int w4), .val (.int w5), .val (.ref ad12), .val (.ref ad42)] [(.int (1 : Int32))])) _
    refine XS.ifNo X92.here hx rfl (hb hby at_369) rfl (XT.i0_eq_f (by decide)) ?_
    show Steps p.tables e below (T92.setTop (mkF m 372 #[.val (.int p1), .val (.int p2), .val (.int p3), .val (.int p4), .val (.int w1), .val (.int w2), .val (.int w3), .val (.int w4), .val (.int w5), .val (.ref ad12), .val (.ref ad42)] [])) _
    refine XS.aload X92.here hx rfl (hb hby at_372) rfl rfl ?_
    show Steps p.tables e below (T92.setTop (mkF m 374 #[.val (.int p1), .val (.int p2), .val (.int p3), .val (.int p4), .val (.int w1), .val (.int w2), .val (.int w3), .val (.int w4), .val (.int w5), .val (.ref ad12), .val (.ref ad42)] [(.ref ad12)])) _
    refine XT.bipushV X92.here hx rfl (8 : Int32) (hb hby at_374) rfl ?_
    show Steps p.tables e below (T92.setTop (mkF m 376 #[.val (.int p1), .val (.int p2), .val (.int p3), .val (.int p4), .val (.int w1), .val (.int w2), .val (.int w3), .val (.int w4), .val (.int w5), .val (.ref ad12), .val (.ref ad42)] [(.int (8 : Int32)), (.ref ad12)])) _
    refine XS.iload X92.here hx rfl (hb hby at_376) rfl ?_
    show Steps p.tables e below (T92.setTop (mkF m 378 #[.val (.int p1), .val (.int p2), .val (.int p3), .val (.int p4), .val (.int w1), .val (.int w2), .val (.int w3), .val (.int w4), .val (.int w5), .val (.ref ad12), .val (.ref ad42)] [(.int w3), (.int (8 : Int32)), (.ref ad12)])) _
    refine XS.iload X92.here hx rfl (hb hby at_378) rfl ?_
    show Steps p.tables e below (T92.setTop (mkF m 380 #[.val (.int p1), .val (.int p2), .val (.int p3), .val (.int p4), .val (.int w1), .val (.int w2), .val (.int w3), .val (.int w4), .val (.int w5), .val (.ref ad12), .val (.ref ad42)] [(.int w4), (.int w3), (.int (8 : Int32)), (.ref ad12)])) _
    refine XS.iload X92.here hx rfl (hb hby at_380) rfl ?_
    show Steps p.tables e below (T92.setTop (mkF m 382 #[.val (.int p1), .val (.int p2), .val (.int p3), .val (.int p4), .val (.int w1), .val (.int w2), .val (.int w3), .val (.int w4), .val (.int w5), .val (.ref ad12), .val (.ref ad42)] [(.int w1), (.int w4), (.int w3), (.int (8 : Int32)), (.ref ad12)])) _
    refine XS.iload X92.here hx rfl (hb hby at_382) rfl ?_
    show Steps p.tables e below (T92.setTop (mkF m 384 #[.val (.int p1), .val (.int p2), .val (.int p3), .val (.int p4), .val (.int w1), .val (.int w2), .val (.int w3), .val (.int w4), .val (.int w5), .val (.ref ad12), .val (.ref ad42)] [(.int w5), (.int w1), (.int w4), (.int w3), (.int (8 : Int32)), (.ref ad12)])) _
    refine XS.aload X92.here hx rfl (hb hby at_384) rfl rfl ?_
    show Steps p.tables e below (T92.setTop (mkF m 386 #[.val (.int p1), .val (.int p2), .val (.int p3), .val (.int p4), .val (.int w1), .val (.int w2), .val (.int w3), .val (.int w4), .val (.int w5), .val (.ref ad12), .val (.ref ad42)] [(.ref ad42), (.int w5), (.int w1), (.int w4), (.int w3), (.int (8 : Int32)), (.ref ad12)])) _
    exact k
  obtain ⟨_, _, ⟨T93, L93, k93, n93⟩, -, X93, ⟨Lc93, hQ93, l93, y93, z93⟩, st93⟩ := Jvm.LawKit.callS X92 hx (y := (⟨"com/example/kalend/kalend/util/DigitsWritePinLaw", "ok", "([CIIIIC[J)Z"⟩ : MethodName)) hown (mvT hZ (hw _ (List.mem_of_getElem? (i := 19) rfl))) (mvT hZ (hw _ (List.mem_of_getElem? (i := 20) rfl))) (mvT hZ (hw _ (List.mem_of_getElem? (i := 21) rfl))) (mvT hZ (hw _ (List.mem_of_getElem? (i := 22) rfl))) (by decide) (backOf (W := 0) (rm2 l Z a0 hw [] ad12 (8 : Int32) w3 w4 w1 w5 ad42 g82 T82.heap n0 Z82 ag82 f84 (by decide) hv ⟨hbg, hbe, he, hwd⟩ (hga 8) (hgb 8)) hZ (hw _ (List.mem_of_getElem? (i := 22) rfl)) (hw _ (List.mem_of_getElem? (i := 21) rfl)) (by decide) (by decide)) (g := (mkF m 386 #[.val (.int p1), .val (.int p2), .val (.int p3), .val (.int p4), .val (.int w1), .val (.int w2), .val (.int w3), .val (.int w4), .val (.int w5), .val (.ref ad12), .val (.ref ad42)] [(.ref ad42), (.int w5), (.int w1), (.int w4), (.int w3), (.int (8 : Int32)), (.ref ad12)])) rfl (by rw [hml]; rfl) (argsL := [(.ref ad12), (.int (8 : Int32)), (.int w3), (.int w4), (.int w1), (.int w5), (.ref ad42)]) (rest := []) (lenOf pd_2 rfl) rfl (by show 2 * 0 + _ ≤ _; exact Nat.le_of_eq rfl) (hb hby at_386) (fun _ _ => ⟨rfl, eh92, (by dsimp only [Pt.cells]; decide), (by dsimp only [Pt.slots]; decide)⟩)
  dsimp only [Pt.U, Pt.locs, Pt.cells, Pt.slots] at X93 l93 y93 z93 st93 hQ93
  subst l93 y93 z93
  obtain ⟨rfl, Nc93, hp93⟩ := hQ93
  have N93 := Fr.app N92 Nc93
  refine OwnWp.step st93 ?_
  have eh93 : T93.heap = T82.heap := hp93
  show OwnWp p e below s _ _ _ (T93.setTop (mkF m 389 #[.val (.int p1), .val (.int p2), .val (.int p3), .val (.int p4), .val (.int w1), .val (.int w2), .val (.int w3), .val (.int w4), .val (.int w5), .val (.ref ad12), .val (.ref ad42)] [(.int (1 : Int32))]))
  refine OwnWp.step (U' := T93.setTop (mkF m 406 #[.val (.int p1), .val (.int p2), .val (.int p3), .val (.int p4), .val (.int w1), .val (.int w2), .val (.int w3), .val (.int w4), .val (.int w5), .val (.ref ad12), .val (.ref ad42)] [(.ref ad42), (.int w5), (.int w1), (.int w4), (.int w3), (.int (9 : Int32)), (.ref ad12)])) (fun t k => ?_) ?_
  · show Steps p.tables e below (T93.setTop (mkF m 389 #[.val (.int p1), .val (.int p2), .val (.int p3), .val (.int p4), .val (.int w1), .val (.int w2), .val (.int w3), .val (.int w4), .val (.int w5), .val (.ref ad12), .val (.ref ad42)] [(.int (1 : Int32))])) _
    refine XS.ifNo X93.here hx rfl (hb hby at_389) rfl (XT.i0_eq_f (by decide)) ?_
    show Steps p.tables e below (T93.setTop (mkF m 392 #[.val (.int p1), .val (.int p2), .val (.int p3), .val (.int p4), .val (.int w1), .val (.int w2), .val (.int w3), .val (.int w4), .val (.int w5), .val (.ref ad12), .val (.ref ad42)] [])) _
    refine XS.aload X93.here hx rfl (hb hby at_392) rfl rfl ?_
    show Steps p.tables e below (T93.setTop (mkF m 394 #[.val (.int p1), .val (.int p2), .val (.int p3), .val (.int p4), .val (.int w1), .val (.int w2), .val (.int w3), .val (.int w4), .val (.int w5), .val (.ref ad12), .val (.ref ad42)] [(.ref ad12)])) _
    refine XT.bipushV X93.here hx rfl (9 : Int32) (hb hby at_394) rfl ?_
    show Steps p.tables e below (T93.setTop (mkF m 396 #[.val (.int p1), .val (.int p2), .val (.int p3), .val (.int p4), .val (.int w1), .val (.int w2), .val (.int w3), .val (.int w4), .val (.int w5), .val (.ref ad12), .val (.ref ad42)] [(.int (9 : Int32)), (.ref ad12)])) _
    refine XS.iload X93.here hx rfl (hb hby at_396) rfl ?_
    show Steps p.tables e below (T93.setTop (mkF m 398 #[.val (.int p1), .val (.int p2), .val (.int p3), .val (.int p4), .val (.int w1), .val (.int w2), .val (.int w3), .val (.int w4), .val (.int w5), .val (.ref ad12), .val (.ref ad42)] [(.int w3), (.int (9 : Int32)), (.ref ad12)])) _
    refine XS.iload X93.here hx rfl (hb hby at_398) rfl ?_
    show Steps p.tables e below (T93.setTop (mkF m 400 #[.val (.int p1), .val (.int p2), .val (.int p3), .val (.int p4), .val (.int w1), .val (.int w2), .val (.int w3), .val (.int w4), .val (.int w5), .val (.ref ad12), .val (.ref ad42)] [(.int w4), (.int w3), (.int (9 : Int32)), (.ref ad12)])) _
    refine XS.iload X93.here hx rfl (hb hby at_400) rfl ?_
    show Steps p.tables e below (T93.setTop (mkF m 402 #[.val (.int p1), .val (.int p2), .val (.int p3), .val (.int p4), .val (.int w1), .val (.int w2), .val (.int w3), .val (.int w4), .val (.int w5), .val (.ref ad12), .val (.ref ad42)] [(.int w1), (.int w4), (.int w3), (.int (9 : Int32)), (.ref ad12)])) _
    refine XS.iload X93.here hx rfl (hb hby at_402) rfl ?_
    show Steps p.tables e below (T93.setTop (mkF m 404 #[.val (.int p1), .val (.int p2), .val (.int p3), .val (.int p4), .val (.int w1), .val (.int w2), .val (.int w3), .val (.int w4), .val (.int w5), .val (.ref ad12), .val (.ref ad42)] [(.int w5), (.int w1), (.int w4), (.int w3), (.int (9 : Int32)), (.ref ad12)])) _
    refine XS.aload X93.here hx rfl (hb hby at_404) rfl rfl ?_
    show Steps p.tables e below (T93.setTop (mkF m 406 #[.val (.int p1), .val (.int p2), .val (.int p3), .val (.int p4), .val (.int w1), .val (.int w2), .val (.int w3), .val (.int w4), .val (.int w5), .val (.ref ad12), .val (.ref ad42)] [(.ref ad42), (.int w5), (.int w1), (.int w4), (.int w3), (.int (9 : Int32)), (.ref ad12)])) _
    exact k
  obtain ⟨_, _, ⟨T94, L94, k94, n94⟩, -, X94, ⟨Lc94, hQ94, l94, y94, z94⟩, st94⟩ := Jvm.LawKit.callS X93 hx (y := (⟨"com/example/kalend/kalend/util/DigitsWritePinLaw", "ok", "([CIIIIC[J)Z"⟩ : MethodName)) hown (mvT hZ (hw _ (List.mem_of_getElem? (i := 19) rfl))) (mvT hZ (hw _ (List.mem_of_getElem? (i := 20) rfl))) (mvT hZ (hw _ (List.mem_of_getElem? (i := 21) rfl))) (mvT hZ (hw _ (List.mem_of_getElem? (i := 22) rfl))) (by decide) (backOf (W := 0) (rm2 l Z a0 hw [] ad12 (9 : Int32) w3 w4 w1 w5 ad42 g82 T82.heap n0 Z82 ag82 f84 (by decide) hv ⟨hbg, hbe, he, hwd⟩ (hga 9) (hgb 9)) hZ (hw _ (List.mem_of_getElem? (i := 22) rfl)) (hw _ (List.mem_of_getElem? (i := 21) rfl)) (by decide) (by decide)) (g := (mkF m 406 #[.val (.int p1), .val (.int p2), .val (.int p3), .val (.int p4), .val (.int w1), .val (.int w2), .val (.int w3), .val (.int w4), .val (.int w5), .val (.ref ad12), .val (.ref ad42)] [(.ref ad42), (.int w5), (.int w1), (.int w4), (.int w3), (.int (9 : Int32)), (.ref ad12)])) rfl (by rw [hml]; rfl) (argsL := [(.ref ad12), (.int (9 : Int32)), (.int w3), (.int w4), (.int w1), (.int w5), (.ref ad42)]) (rest := []) (lenOf pd_2 rfl) rfl (by show 2 * 0 + _ ≤ _; exact Nat.le_of_eq rfl) (hb hby at_406) (fun _ _ => ⟨rfl, eh93, (by dsimp only [Pt.cells]; decide), (by dsimp only [Pt.slots]; decide)⟩)
  dsimp only [Pt.U, Pt.locs, Pt.cells, Pt.slots] at X94 l94 y94 z94 st94 hQ94
  subst l94 y94 z94
  obtain ⟨rfl, Nc94, hp94⟩ := hQ94
  have N94 := Fr.app N93 Nc94
  refine OwnWp.step st94 ?_
  have eh94 : T94.heap = T82.heap := hp94
  show OwnWp p e below s _ _ _ (T94.setTop (mkF m 409 #[.val (.int p1), .val (.int p2), .val (.int p3), .val (.int p4), .val (.int w1), .val (.int w2), .val (.int w3), .val (.int w4), .val (.int w5), .val (.ref ad12), .val (.ref ad42)] [(.int (1 : Int32))]))
  refine OwnWp.step (U' := T94.setTop (mkF m 426 #[.val (.int p1), .val (.int p2), .val (.int p3), .val (.int p4), .val (.int w1), .val (.int w2), .val (.int w3), .val (.int w4), .val (.int w5), .val (.ref ad12), .val (.ref ad42)] [(.ref ad42), (.int w5), (.int w1), (.int w4), (.int w3), (.int (10 : Int32)), (.ref ad12)])) (fun t k => ?_) ?_
  · show Steps p.tables e below (T94.setTop (mkF m 409 #[.val (.int p1), .val (.int p2), .val (.int p3), .val (.int p4), .val (.int w1), .val (.int w2), .val (.int w3), .val (.int w4), .val (.int w5), .val (.ref ad12), .val (.ref ad42)] [(.int (1 : Int32))])) _
    refine XS.ifNo X94.here hx rfl (hb hby at_409) rfl (XT.i0_eq_f (by decide)) ?_
    show Steps p.tables e below (T94.setTop (mkF m 412 #[.val (.int p1), .val (.int p2), .val (.int p3), .val (.int p4), .val (.int w1), .val (.int w2), .val (.int w3), .val (.int w4), .val (.int w5), .val (.ref ad12), .val (.ref ad42)] [])) _
    refine XS.aload X94.here hx rfl (hb hby at_412) rfl rfl ?_
    show Steps p.tables e below (T94.setTop (mkF m 414 #[.val (.int p1), .val (.int p2), .val (.int p3), .val (.int p4), .val (.int w1), .val (.int w2), .val (.int w3), .val (.int w4), .val (.int w5), .val (.ref ad12), .val (.ref ad42)] [(.ref ad12)])) _
    refine XT.bipushV X94.here hx rfl (10 : Int32) (hb hby at_414) rfl ?_
    show Steps p.tables e below (T94.setTop (mkF m 416 #[.val (.int p1), .val (.int p2), .val (.int p3), .val (.int p4), .val (.int w1), .val (.int w2), .val (.int w3), .val (.int w4), .val (.int w5), .val (.ref ad12), .val (.ref ad42)] [(.int (10 : Int32)), (.ref ad12)])) _
    refine XS.iload X94.here hx rfl (hb hby at_416) rfl ?_
    show Steps p.tables e below (T94.setTop (mkF m 418 #[.val (.int p1), .val (.int p2), .val (.int p3), .val (.int p4), .val (.int w1), .val (.int w2), .val (.int w3), .val (.int w4), .val (.int w5), .val (.ref ad12), .val (.ref ad42)] [(.int w3), (.int (10 : Int32)), (.ref ad12)])) _
    refine XS.iload X94.here hx rfl (hb hby at_418) rfl ?_
    show Steps p.tables e below (T94.setTop (mkF m 420 #[.val (.int p1), .val (.int p2), .val (.int p3), .val (.int p4), .val (.int w1), .val (.int w2), .val (.int w3), .val (.int w4), .val (.int w5), .val (.ref ad12), .val (.ref ad42)] [(.int w4), (.int w3), (.int (10 : Int32)), (.ref ad12)])) _
    refine XS.iload X94.here hx rfl (hb hby at_420) rfl ?_
    show Steps p.tables e below (T94.setTop (mkF m 422 #[.val (.int p1), .val (.int p2), .val (.int p3), .val (.int p4), .val (.int w1), .val (.int w2), .val (.int w3), .val (.int w4), .val (.int w5), .val (.ref ad12), .val (.ref ad42)] [(.int w1), (.int w4), (.int w3), (.int (10 : Int32)), (.ref ad12)])) _
    refine XS.iload X94.here hx rfl (hb hby at_422) rfl ?_
    show Steps p.tables e below (T94.setTop (mkF m 424 #[.val (.int p1), .val (.int p2), .val (.int p3), .val (.int p4), .val (.int w1), .val (.int w2), .val (.int w3), .val (.int w4), .val (.int w5), .val (.ref ad12), .val (.ref ad42)] [(.int w5), (.int w1), (.int w4), (.int w3), (.int (10 : Int32)), (.ref ad12)])) _
    refine XS.aload X94.here hx rfl (hb hby at_424) rfl rfl ?_
    show Steps p.tables e below (T94.setTop (mkF m 426 #[.val (.int p1), .val (.int p2), .val (.int p3), .val (.int p4), .val (.int w1), .val (.int w2), .val (.int w3), .val (.int w4), .val (.int w5), .val (.ref ad12), .val (.ref ad42)] [(.ref ad42), (.int w5), (.int w1), (.int w4), (.int w3), (.int (10 : Int32)), (.ref ad12)])) _
    exact k
  obtain ⟨_, _, ⟨T95, L95, k95, n95⟩, -, X95, ⟨Lc95, hQ95, l95, y95, z95⟩, st95⟩ := Jvm.LawKit.callS X94 hx (y := (⟨"com/example/kalend/kalend/util/DigitsWritePinLaw", "ok", "([CIIIIC[J)Z"⟩ : MethodName)) hown (mvT hZ (hw _ (List.mem_of_getElem? (i := 19) rfl))) (mvT hZ (hw _ (List.mem_of_getElem? (i := 20) rfl))) (mvT hZ (hw _ (List.mem_of_getElem? (i := 21) rfl))) (mvT hZ (hw _ (List.mem_of_getElem? (i := 22) rfl))) (by decide) (backOf (W := 0) (rm2 l Z a0 hw [] ad12 (10 : Int32) w3 w4 w1 w5 ad42 g82 T82.heap n0 Z82 ag82 f84 (by decide) hv ⟨hbg, hbe, he, hwd⟩ (hga 10) (hgb 10)) hZ (hw _ (List.mem_of_getElem? (i := 22) rfl)) (hw _ (List.mem_of_getElem? (i := 21) rfl)) (by decide) (by decide)) (g := (mkF m 426 #[.val (.int p1), .val (.int p2), .val (.int p3), .val (.int p4), .val (.int w1), .val (.int w2), .val (.int w3), .val (.int w4), .val (.int w5), .val (.ref ad12), .val (.ref ad42)] [(.ref ad42), (.int w5), (.int w1), (.int w4), (.int w3), (.int (10 : Int32)), (.ref ad12)])) rfl (by rw [hml]; rfl) (argsL := [(.ref ad12), (.int (10 : Int32)), (.int w3), (.int w4), (.int w1), (.int w5), (.ref ad42)]) (rest := []) (lenOf pd_2 rfl) rfl (by show 2 * 0 + _ ≤ _; exact Nat.le_of_eq rfl) (hb hby at_426) (fun _ _ => ⟨rfl, eh94, (by dsimp only [Pt.cells]; decide), (by dsimp only [Pt.slots]; decide)⟩)
  dsimp only [Pt.U, Pt.locs, Pt.cells, Pt.slots] at X95 l95 y95 z95 st95 hQ95
  subst l95 y95 z95
  obtain ⟨rfl, Nc95, hp95⟩ := hQ95
  have N95 := Fr.app N94 Nc95
  refine OwnWp.step st95 ?_
  have eh95 : T95.heap = T82.heap := hp95
  show OwnWp p e below s _ _ _ (T95.setTop (mkF m 429 #[.val (.int p1), .val (.int p2), .val (.int p3), .val (.int p4), .val (.int w1), .val (.int w2), .val (.int w3), .val (.int w4), .val (.int w5), .val (.ref ad12), .val (.ref ad42)] [(.int (1 : Int32))]))
  refine OwnWp.step (U' := T95.setTop (mkF m 446 #[.val (.int p1), .val (.int p2), .val (.int p3), .val (.int p4), .val (.int w1), .val (.int w2), .val (.int w3), .val (.int w4), .val (.int w5), .val (.ref ad12), .val (.ref ad42)] [(.ref ad42), (.int w5), (.int w1), (.int w4), (.int w3), (.int (11 : Int32)), (.ref ad12)])) (fun t k => ?_) ?_
  · show Steps p.tables e below (T95.setTop (mkF m 429 #[.val (.int p1), .val (.int p2), .val (.int p3), .val (.int p4), .val (.int w1), .val (.int w2), .val (.int w3), .val (.int w4), .val (.int w5), .val (.ref ad12), .val (.ref ad42)] [(.int (1 : Int32))])) _
    refine XS.ifNo X95.here hx rfl (hb hby at_429) rfl (XT.i0_eq_f (by decide)) ?_
    show Steps p.tables e below (T95.setTop (mkF m 432 #[.val (.int p1), .val (.int p2), .val (.int p3), .val (.int p4), .val (.int w1), .val (.int w2), .val (.int w3), .val (.int w4), .val (.int w5), .val (.ref ad12), .val (.ref ad42)] [])) _
    refine XS.aload X95.here hx rfl (hb hby at_432) rfl rfl ?_
    show Steps p.tables e below (T95.setTop (mkF m 434 #[.val (.int p1), .val (.int p2), .val (.int p3), .val (.int p4), .val (.int w1), .val (.int w2), .val (.int w3), .val (.int w4), .val (.int w5), .val (.ref ad12), .val (.ref ad42)] [(.ref ad12)])) _
    refine XT.bipushV X95.here hx rfl (11 : Int32) (hb hby at_434) rfl ?_
    show Steps p.tables e below (T95.setTop (mkF m 436 #[.val (.int p1), .val (.int p2), .val (.int p3), .val (.int p4), .val (.int w1), .val (.int w2), .val (.int w3), .val (.int w4), .val (.int w5), .val (.ref ad12), .val (.ref ad42)] [(.int (11 : Int32)), (.ref ad12)])) _
    refine XS.iload X95.here hx rfl (hb hby at_436) rfl ?_
    show Steps p.tables e below (T95.setTop (mkF m 438 #[.val (.int p1), .val (.int p2), .val (.int p3), .val (.int p4), .val (.int w1), .val (.int w2), .val (.int w3), .val (.int w4), .val (.int w5), .val (.ref ad12), .val (.ref ad42)] [(.int w3), (.int (11 : Int32)), (.ref ad12)])) _
    refine XS.iload X95.here hx rfl (hb hby at_438) rfl ?_
    show Steps p.tables e below (T95.setTop (mkF m 440 #[.val (.int p1), .val (.int p2), .val (.int p3), .val (.int p4), .val (.int w1), .val (.int w2), .val (.int w3), .val (.int w4), .val (.int w5), .val (.ref ad12), .val (.ref ad42)] [(.int w4), (.int w3), (.int (11 : Int32)), (.ref ad12)])) _
    refine XS.iload X95.here hx rfl (hb hby at_440) rfl ?_
    show Steps p.tables e below (T95.setTop (mkF m 442 #[.val (.int p1), .val (.int p2), .val (.int p3), .val (.int p4), .val (.int w1), .val (.int w2), .val (.int w3), .val (.int w4), .val (.int w5), .val (.ref ad12), .val (.ref ad42)] [(.int w1), (.int w4), (.int w3), (.int (11 : Int32)), (.ref ad12)])) _
    refine XS.iload X95.here hx rfl (hb hby at_442) rfl ?_
    show Steps p.tables e below (T95.setTop (mkF m 444 #[.val (.int p1), .val (.int p2), .val (.int p3), .val (.int p4), .val (.int w1), .val (.int w2), .val (.int w3), .val (.int w4), .val (.int w5), .val (.ref ad12), .val (.ref ad42)] [(.int w5), (.int w1), (.int w4), (.int w3), (.int (11 : Int32)), (.ref ad12)])) _
    refine XS.aload X95.here hx rfl (hb hby at_444) rfl rfl ?_
    show Steps p.tables e below (T95.setTop (mkF m 446 #[.val (.int p1), .val (.int p2), .val (.int p3), .val (.int p4), .val (.int w1), .val (.int w2), .val (.int w3), .val (.int w4), .val (.int w5), .val (.ref ad12), .val (.ref ad42)] [(.ref ad42), (.int w5), (.int w1), (.int w4), (.int w3), (.int (11 : Int32)), (.ref ad12)])) _
    exact k
  obtain ⟨_, _, ⟨T96, L96, k96, n96⟩, -, X96, ⟨Lc96, hQ96, l96, y96, z96⟩, st96⟩ := Jvm.LawKit.callS X95 hx (y := (⟨"com/example/kalend/kalend/util/DigitsWritePinLaw", "ok", "([CIIIIC[J)Z"⟩ : MethodName)) hown (mvT hZ (hw _ (List.mem_of_getElem? (i := 19) rfl))) (mvT hZ (hw _ (List.mem_of_getElem? (i := 20) rfl))) (mvT hZ (hw _ (List.mem_of_getElem? (i := 21) rfl))) (mvT hZ (hw _ (List.mem_of_getElem? (i := 22) rfl))) (by decide) (backOf (W := 0) (rm2 l Z a0 hw [] ad12 (11 : Int32) w3 w4 w1 w5 ad42 g82 T82.heap n0 Z82 ag82 f84 (by decide) hv ⟨hbg, hbe, he, hwd⟩ (hga 11) (hgb 11)) hZ (hw _ (List.mem_of_getElem? (i := 22) rfl)) (hw _ (List.mem_of_getElem? (i := 21) rfl)) (by decide) (by decide)) (g := (mkF m 446 #[.val (.int p1), .val (.int p2), .val (.int p3), .val (.int p4), .val (.int w1), .val (.int w2), .val (.int w3), .val (.int w4), .val (.int w5), .val (.ref ad12), .val (.ref ad42)] [(.ref ad42), (.int w5), (.int w1), (.int w4), (.int w3), (.int (11 : Int32)), (.ref ad12)])) rfl (by rw [hml]; rfl) (argsL := [(.ref ad12), (.int (11 : Int32)), (.int w3), (.int w4), (.int w1), (.int w5), (.ref ad42)]) (rest := []) (lenOf pd_2 rfl) rfl (by show 2 * 0 + _ ≤ _; exact Nat.le_of_eq rfl) (hb hby at_446) (fun _ _ => ⟨rfl, eh95, (by dsimp only [Pt.cells]; decide), (by dsimp only [Pt.slots]; decide)⟩)
  dsimp only [Pt.U, Pt.locs, Pt.cells, Pt.slots] at X96 l96 y96 z96 st96 hQ96
  subst l96 y96 z96
  obtain ⟨rfl, Nc96, hp96⟩ := hQ96
  have N96 := Fr.app N95 Nc96
  refine OwnWp.step st96 ?_
  have eh96 : T96.heap = T82.heap := hp96
  show OwnWp p e below s _ _ _ (T96.setTop (mkF m 449 #[.val (.int p1), .val (.int p2), .val (.int p3), .val (.int p4), .val (.int w1), .val (.int w2), .val (.int w3), .val (.int w4), .val (.int w5), .val (.ref ad12), .val (.ref ad42)] [(.int (1 : Int32))]))
  refine OwnWp.step (U' := T96.setTop (mkF m 466 #[.val (.int p1), .val (.int p2), .val (.int p3), .val (.int p4), .val (.int w1), .val (.int w2), .val (.int w3), .val (.int w4), .val (.int w5), .val (.ref ad12), .val (.ref ad42)] [(.ref ad42), (.int w5), (.int w1), (.int w4), (.int w3), (.int (12 : Int32)), (.ref ad12)])) (fun t k => ?_) ?_
  · show Steps p.tables e below (T96.setTop (mkF m 449 #[.val (.int p1), .val (.int p2), .val (.int p3), .val (.int p4), .val (.int w1), .val (.int w2), .val (.int w3), .val (.int w4), .val (.int w5), .val (.ref ad12), .val (.ref ad42)] [(.int (1 : Int32))])) _
    refine XS.ifNo X96.here hx rfl (hb hby at_449) rfl (XT.i0_eq_f (by decide)) ?_
    show Steps p.tables e below (T96.setTop (mkF m 452 #[.val (.int p1), .val (.int p2), .val (.int p3), .val (.int p4), .val (.int w1), .val (.int w2), .val (.int w3), .val (.int w4), .val (.int w5), .val (.ref ad12), .val (.ref ad42)] [])) _
    refine XS.aload X96.here hx rfl (hb hby at_452) rfl rfl ?_
    show Steps p.tables e below (T96.setTop (mkF m 454 #[.val (.int p1), .val (.int p2), .val (.int p3), .val (.int p4), .val (.int w1), .val (.int w2), .val (.int w3), .val (.int w4), .val (.int w5), .val (.ref ad12), .val (.ref ad42)] [(.ref ad12)])) _
    refine XT.bipushV X96.here hx rfl (12 : Int32) (hb hby at_454) rfl ?_
    show Steps p.tables e below (T96.setTop (mkF m 456 #[.val (.int p1), .val (.int p2), .val (.int p3), .val (.int p4), .val (.int w1), .val (.int w2), .val (.int w3), .val (.int w4), .val (.int w5), .val (.ref ad12), .val (.ref ad42)] [(.int (12 : Int32)), (.ref ad12)])) _
    refine XS.iload X96.here hx rfl (hb hby at_456) rfl ?_
    show Steps p.tables e below (T96.setTop (mkF m 458 #[.val (.int p1), .val (.int p2), .val (.int p3), .val (.int p4), .val (.int w1), .val (.int w2), .val (.int w3), .val (.int w4), .val (.int w5), .val (.ref ad12), .val (.ref ad42)] [(.int w3), (.int (12 : Int32)), (.ref ad12)])) _
    refine XS.iload X96.here hx rfl (hb hby at_458) rfl ?_
    show Steps p.tables e below (T96.setTop (mkF m 460 #[.val (.int p1), .val (.int p2), .val (.int p3), .val (.int p4), .val (.int w1), .val (.int w2), .val (.int w3), .val (.int w4), .val (.int w5), .val (.ref ad12), .val (.ref ad42)] [(.int w4), (.int w3), (.int (12 : Int32)), (.ref ad12)])) _
    refine XS.iload X96.here hx rfl (hb hby at_460) rfl ?_
    show Steps p.tables e below (T96.setTop (mkF m 462 #[.val (.int p1), .val (.int p2), .val (.int p3), .val (.int p4), .val (.int w1), .val (.int w2), .val (.int w3), .val (.int w4), .val (.int w5), .val (.ref ad12), .val (.ref ad42)] [(.int w1), (.int w4), (.int w3), (.int (12 : Int32)), (.ref ad12)])) _
    refine XS.iload X96.here hx rfl (hb hby at_462) rfl ?_
    show Steps p.tables e below (T96.setTop (mkF m 464 #[.val (.int p1), .val (.int p2), .val (.int p3), .val (.int p4), .val (.int w1), .val (.int w2), .val (.int w3), .val (.int w4), .val (.int w5), .val (.ref ad12), .val (.ref ad42)] [(.int w5), (.int w1), (.int w4), (.int w3), (.int (12 : Int32)), (.ref ad12)])) _
    refine XS.aload X96.here hx rfl (hb hby at_464) rfl rfl ?_
    show Steps p.tables e below (T96.setTop (mkF m 466 #[.val (.int p1), .val (.int p2), .val (.int p3), .val (.int p4), .val (.int w1), .val (.int w2), .val (.int w3), .val (.int w4), .val (.int w5), .val (.ref ad12), .val (.ref ad42)] [(.ref ad42), (.int w5), (.int w1), (.int w4), (.int w3), (.int (12 : Int32)), (.ref ad12)])) _
    exact k
  obtain ⟨_, _, ⟨T97, L97, k97, n97⟩, -, X97, ⟨Lc97, hQ97, l97, y97, z97⟩, st97⟩ := Jvm.LawKit.callS X96 hx (y := (⟨"com/example/kalend/kalend/util/DigitsWritePinLaw", "ok", "([CIIIIC[J)Z"⟩ : MethodName)) hown (mvT hZ (hw _ (List.mem_of_getElem? (i := 19) rfl))) (mvT hZ (hw _ (List.mem_of_getElem? (i := 20) rfl))) (mvT hZ (hw _ (List.mem_of_getElem? (i := 21) rfl))) (mvT hZ (hw _ (List.mem_of_getElem? (i := 22) rfl))) (by decide) (backOf (W := 0) (rm2 l Z a0 hw [] ad12 (12 : Int32) w3 w4 w1 w5 ad42 g82 T82.heap n0 Z82 ag82 f84 (by decide) hv ⟨hbg, hbe, he, hwd⟩ (hga 12) (hgb 12)) hZ (hw _ (List.mem_of_getElem? (i := 22) rfl)) (hw _ (List.mem_of_getElem? (i := 21) rfl)) (by decide) (by decide)) (g := (mkF m 466 #[.val (.int p1), .val (.int p2), .val (.int p3), .val (.int p4), .val (.int w1), .val (.int w2), .val (.int w3), .val (.int w4), .val (.int w5), .val (.ref ad12), .val (.ref ad42)] [(.ref ad42), (.int w5), (.int w1), (.int w4), (.int w3), (.int (12 : Int32)), (.ref ad12)])) rfl (by rw [hml]; rfl) (argsL := [(.ref ad12), (.int (12 : Int32)), (.int w3), (.int w4), (.int w1), (.int w5), (.ref ad42)]) (rest := []) (lenOf pd_2 rfl) rfl (by show 2 * 0 + _ ≤ _; exact Nat.le_of_eq rfl) (hb hby at_466) (fun _ _ => ⟨rfl, eh96, (by dsimp only [Pt.cells]; decide), (by dsimp only [Pt.slots]; decide)⟩)
  dsimp only [Pt.U, Pt.locs, Pt.cells, Pt.slots] at X97 l97 y97 z97 st97 hQ97
  subst l97 y97 z97
  obtain ⟨rfl, Nc97, hp97⟩ := hQ97
  have N97 := Fr.app N96 Nc97
  refine OwnWp.step st97 ?_
  have eh97 : T97.heap = T82.heap := hp97
  show OwnWp p e below s _ _ _ (T97.setTop (mkF m 469 #[.val (.int p1), .val (.int p2), .val (.int p3), .val (.int p4), .val (.int w1), .val (.int w2), .val (.int w3), .val (.int w4), .val (.int w5), .val (.ref ad12), .val (.ref ad42)] [(.int (1 : Int32))]))
  refine OwnWp.step (U' := T97.setTop (mkF m 486 #[.val (.int p1), .val (.int p2), .val (.int p3), .val (.int p4), .val (.int w1), .val (.int w2), .val (.int w3), .val (.int w4), .val (.int w5), .val (.ref ad12), .val (.ref ad42)] [(.ref ad42), (.int w5), (.int w1), (.int w4), (.int w3), (.int (13 : Int32)), (.ref ad12)])) (fun t k => ?_) ?_
  · show Steps p.tables e below (T97.setTop (mkF m 469 #[.val (.int p1), .val (.int p2), .val (.int p3), .val (.int p4), .val (.int w1), .val (.int w2), .val (.int w3), .val (.int w4), .val (.int w5), .val (.ref ad12), .val (.ref ad42)] [(.int (1 : Int32))])) _
    refine XS.ifNo X97.here hx rfl (hb hby at_469) rfl (XT.i0_eq_f (by decide)) ?_
    show Steps p.tables e below (T97.setTop (mkF m 472 #[.val (.int p1), .val (.int p2), .val (.int p3), .val (.int p4), .val (.int w1), .val (.int w2), .val (.int w3), .val (.int w4), .val (.int w5), .val (.ref ad12), .val (.ref ad42)] [])) _
    refine XS.aload X97.here hx rfl (hb hby at_472) rfl rfl ?_
    show Steps p.tables e below (T97.setTop (mkF m 474 #[.val (.int p1), .val (.int p2), .val (.int p3), .val (.int p4), .val (.int w1), .val (.int w2), .val (.int w3), .val (.int w4), .val (.int w5), .val (.ref ad12), .val (.ref ad42)] [(.ref ad12)])) _
    refine XT.bipushV X97.here hx rfl (13 : Int32) (hb hby at_474) rfl ?_
    show Steps p.tables e below (T97.setTop (mkF m 476 #[.val (.int p1), .val (.int p2), .val (.int p3), .val (.int p4), .val (.int w1), .val (.int w2), .val (.int w3), .val (.int w4), .val (.int w5), .val (.ref ad12), .val (.ref ad42)] [(.int (13 : Int32)), (.ref ad12)])) _
    refine XS.iload X97.here hx rfl (hb hby at_476) rfl ?_
    show Steps p.tables e below (T97.setTop (mkF m 478 #[.val (.int p1), .val (.int p2), .val (.int p3), .val (.int p4), .val (.int w1), .val (.int w2), .val (.int w3), .val (.int w4), .val (.int w5), .val (.ref ad12), .val (.ref ad42)] [(.int w3), (.int (13 : Int32)), (.ref ad12)])) _
    refine XS.iload X97.here hx rfl (hb hby at_478) rfl ?_
    show Steps p.tables e below (T97.setTop (mkF m 480 #[.val (.int p1), .val (.int p2), .val (.int p3), .val (.int p4), .val (.int w1), .val (.int w2), .val (.int w3), .val (.int w4), .val (.int w5), .val (.ref ad12), .val (.ref ad42)] [(.int w4), (.int w3), (.int (13 : Int32)), (.ref ad12)])) _
    refine XS.iload X97.here hx rfl (hb hby at_480) rfl ?_
    show Steps p.tables e below (T97.setTop (mkF m 482 #[.val (.int p1), .val (.int p2), .val (.int p3), .val (.int p4), .val (.int w1), .val (.int w2), .val (.int w3), .val (.int w4), .val (.int w5), .val (.ref ad12), .val (.ref ad42)] [(.int w1), (.int w4), (.int w3), (.int (13 : Int32)), (.ref ad12)])) _
    refine XS.iload X97.here hx rfl (hb hby at_482) rfl ?_
    show Steps p.tables e below (T97.setTop (mkF m 484 #[.val (.int p1), .val (.int p2), .val (.int p3), .val (.int p4), .val (.int w1), .val (.int w2), .val (.int w3), .val (.int w4), .val (.int w5), .val (.ref ad12), .val (.ref ad42)] [(.int w5), (.int w1), (.int w4), (.int w3), (.int (13 : Int32)), (.ref ad12)])) _
    refine XS.aload X97.here hx rfl (hb hby at_484) rfl rfl ?_
    show Steps p.tables e below (T97.setTop (mkF m 486 #[.val (.int p1), .val (.int p2), .val (.int p3), .val (.int p4), .val (.int w1), .val (.int w2), .val (.int w3), .val (.int w4), .val (.int w5), .val (.ref ad12), .val (.ref ad42)] [(.ref ad42), (.int w5), (.int w1), (.int w4), (.int w3), (.int (13 : Int32)), (.ref ad12)])) _
    exact k
  obtain ⟨_, _, ⟨T98, L98, k98, n98⟩, -, X98, ⟨Lc98, hQ98, l98, y98, z98⟩, st98⟩ := Jvm.LawKit.callS X97 hx (y := (⟨"com/example/kalend/kalend/util/DigitsWritePinLaw", "ok", "([CIIIIC[J)Z"⟩ : MethodName)) hown (mvT hZ (hw _ (List.mem_of_getElem? (i := 19) rfl))) (mvT hZ (hw _ (List.mem_of_getElem? (i := 20) rfl))) (mvT hZ (hw _ (List.mem_of_getElem? (i := 21) rfl))) (mvT hZ (hw _ (List.mem_of_getElem? (i := 22) rfl))) (by decide) (backOf (W := 0) (rm2 l Z a0 hw [] ad12 (13 : Int32) w3 w4 w1 w5 ad42 g82 T82.heap n0 Z82 ag82 f84 (by decide) hv ⟨hbg, hbe, he, hwd⟩ (hga 13) (hgb 13)) hZ (hw _ (List.mem_of_getElem? (i := 22) rfl)) (hw _ (List.mem_of_getElem? (i := 21) rfl)) (by decide) (by decide)) (g := (mkF m 486 #[.val (.int p1), .val (.int p2), .val (.int p3), .val (.int p4), .val (.int w1), .val (.int w2), .val (.int w3), .val (.int w4), .val (.int w5), .val (.ref ad12), .val (.ref ad42)] [(.ref ad42), (.int w5), (.int w1), (.int w4), (.int w3), (.int (13 : Int32)), (.ref ad12)])) rfl (by rw [hml]; rfl) (argsL := [(.ref ad12), (.int (13 : Int32)), (.int w3), (.int w4), (.int w1), (.int w5), (.ref ad42)]) (rest := []) (lenOf pd_2 rfl) rfl (by show 2 * 0 + _ ≤ _; exact Nat.le_of_eq rfl) (hb hby at_486) (fun _ _ => ⟨rfl, eh97, (by dsimp only [Pt.cells]; decide), (by dsimp only [Pt.slots]; decide)⟩)
  dsimp only [Pt.U, Pt.locs, Pt.cells, Pt.slots] at X98 l98 y98 z98 st98 hQ98
  subst l98 y98 z98
  obtain ⟨rfl, Nc98, hp98⟩ := hQ98
  have N98 := Fr.app N97 Nc98
  refine OwnWp.step st98 ?_
  have eh98 : T98.heap = T82.heap := hp98
  show OwnWp p e below s _ _ _ (T98.setTop (mkF m 489 #[.val (.int p1), .val (.int p2), .val (.int p3), .val (.int p4), .val (.int w1), .val (.int w2), .val (.int w3), .val (.int w4), .val (.int w5), .val (.ref ad12), .val (.ref ad42)] [(.int (1 : Int32))]))
  refine OwnWp.step (U' := T98.setTop (mkF m 497 #[.val (.int p1), .val (.int p2), .val (.int p3), .val (.int p4), .val (.int w1), .val (.int w2), .val (.int w3), .val (.int w4), .val (.int w5), .val (.ref ad12), .val (.ref ad42)] [(.int (1 : Int32))])) (fun t k => ?_) ?_
  · show Steps p.tables e below (T98.setTop (mkF m 489 #[.val (.int p1), .val (.int p2), .val (.int p3), .val (.int p4), .val (.int w1), .val (.int w2), .val (.int w3), .val (.int w4), .val (.int w5), .val (.ref ad12), .val (.ref ad42)] [(.int (1 : Int32))])) _
    refine XS.ifNo X98.here hx rfl (hb hby at_489) rfl (XT.i0_eq_f (by decide)) ?_
    show Steps p.tables e below (T98.setTop (mkF m 492 #[.val (.int p1), .val (.int p2), .val (.int p3), .val (.int p4), .val (.int w1), .val (.int w2), .val (.int w3), .val (.int w4), .val (.int w5), .val (.ref ad12), .val (.ref ad42)] [])) _
    refine XT.iconstV X98.here hx rfl (1 : Int32) (hb hby at_492) rfl ?_
    show Steps p.tables e below (T98.setTop (mkF m 493 #[.val (.int p1), .val (.int p2), .val (.int p3), .val (.int p4), .val (.int w1), .val (.int w2), .val (.int w3), .val (.int w4), .val (.int w5), .val (.ref ad12), .val (.ref ad42)] [(.int (1 : Int32))])) _
    refine XS.goto X98.here hx rfl (pc0 := 493) (pc' := 497) rfl (hb hby at_493) (by decide) (by decide) ?_
    show Steps p.tables e below (T98.setTop (mkF m 497 #[.val (.int p1), .val (.int p2), .val (.int p3), .val (.int p4), .val (.int w1), .val (.int w2), .val (.int w3), .val (.int w4), .val (.int w5), .val (.ref ad12), .val (.ref ad42)] [(.int (1 : Int32))])) _
    exact k
  refine OwnWp.retZ X98 hx hlk Bd.returns (hb hby at_497) (by decide) (by decide) (by decide) ?_
  exact ⟨rfl, N98⟩
set_option maxRecDepth 65536 in
set_option maxHeartbeats 40000000 in
theorem comes_1 {Post : Tables → Env → Array Value → State → Outcome → State → Prop} (hpost : ∀ tb e args s v u, (limb_1_1.after args s (.returned v) u = true ∧ limb_1_2.after args s (.returned v) u = true ∧ True) → FrameEnd s (.returned v) u (Jvm.fieldLocs frame_1_writes args s ++ Jvm.arrayLocs frame_1_arrays args s ++ Jvm.staticLocs frame_1_statics s) 16 128 → Post tb e args s (.returned v) u) :
    ArmFor flags0 classFile x code maxLocals ret World_1 tables_1 room_1 Calls_1 rest_1 Pre_1 Post := by
  intro l hfl _ _ p e ha hc hk s m args below hf hA hF happ hP
  obtain ⟨hcalls, hrest, hpre⟩ := hP
  obtain ⟨-, -, -, hnamed, -, -, -, hat⟩ := (Spec.applies_iff hf).mp happ
  obtain ⟨hg, hn⟩ := and_e (Cond.before_iff.mp (show (Jvm.Cond.and given_1 narrow_1).before args s = true from hpre))
  obtain ⟨hcount, g0⟩ := and_e hg
  obtain ⟨w0, w1, w2, w3, rfl⟩ : ∃ w0 w1 w2 w3 : Value, args = #[w0, w1, w2, w3] := by
    have hs : args.size = 4 := by simpa [Cond.value, given_1] using hcount
    obtain ⟨L⟩ := args
    match L, hs with
    | [w0, w1, w2, w3], _ => exact ⟨w0, w1, w2, w3, rfl⟩
  have hw := fun d (hd : d ∈ tables_1) => atoms_spec (ws := Jvm.Cond.code x code maxLocals ret :: tables_1) hat d (List.mem_cons_of_mem _ hd)
  obtain ⟨u0, g1⟩ := and_e g0
  obtain ⟨i0, e0⟩ := is_v u0
  obtain rfl : w0 = (.int i0) := Option.some.inj e0
  obtain ⟨u1, g2⟩ := and_e g1
  obtain ⟨i1, e1⟩ := is_v u1
  obtain rfl : w1 = (.int i1) := Option.some.inj e1
  obtain ⟨u2, g3⟩ := and_e g2
  obtain ⟨i2, e2⟩ := is_v u2
  obtain rfl : w2 = (.int i2) := Option.some.inj e2
  obtain ⟨i3, e3⟩ := is_v g3
  obtain rfl : w3 = (.int i3) := Option.some.inj e3
  obtain ⟨n, o, h1, h2, h3, _, L, rfl, ⟨rfl, N⟩, hq⟩ := rm0 l s _ hw tables_1 i0 i1 i2 i3 s.heap s.heap.size (Nat.le_refl _) p e ha hc hk s m _ below hf ((Spec.applies_iff_loose hf).mp happ).1 ⟨rfl, State.Warmed39.refl s, rfl⟩ trivial
  refine ⟨n, _, h1, h2, h3, hpost _ _ _ _ _ _ ⟨Cond.after_iff.mpr rfl, Cond.after_iff.mpr (eq_i res_at (Term.int_eval (1)) rfl), trivial⟩ ⟨hq.1, hq.2.1, (hq.2.2.sift fun y hy => Or.inr (N y hy)).mono (by decide) (by decide)⟩⟩
theorem main_1_1 : Claimed_1_1 := comes_1 fun _ _ _ _ _ _ h hF => ⟨h.1, hF⟩
theorem main_1_2 : Claimed_1_2 := comes_1 fun _ _ _ _ _ _ h hF => ⟨h.2.1, hF⟩
end Jvm.Pilot.@@N@@
namespace Jvm.Pilot.@@N@@
open Jvm Jvm.ClassFile Sem Op Lib Jvm.Free Jvm.Stand Jvm.Pilot.@@N@@.Jvm.D
/-! MADE BY PROGRAM (witnessworld.py) out of the Statement's table words and the real class files: 13 classes; the members and pool entries that the words name. The judged class is class 1, her method 1. -/
namespace start1
open Jvm.ClassFile
def u (s : String) : CpInfo := .utf8 (stringToUtf16 s)
/-- a pool by its gaps: so many unusable entries, then the entry; so many at the end -/
def gap : Nat → List CpInfo → List CpInfo
  | 0, r => r
  | n + 1, r => .unusable :: gap n r
def poolList (es : List (Nat × CpInfo)) (last : Nat) : List CpInfo := es.foldr (fun e r => gap e.1 (e.2 :: r)) (gap last [])
def pool (es : List (Nat × CpInfo)) (last : Nat) : Array CpInfo := ⟨poolList es last⟩
def fileOf (pool : Array CpInfo) (this : Nat) (attrs : Array Attribute := #[]) (ms : Array MethodInfo := #[]) (fl : Nat := 33) (sup : Nat := 0) (ifs : Array Nat := #[]) (fds : Array FieldInfo := #[]) : ClassFile where
  minorVersion := 0
  majorVersion := 65
  constantPool := pool
  accessFlags := fl
  thisClass := this
  superClass := sup
  interfaces := ifs
  fields := fds
  methods := ms
  attributes := attrs
def plain (name : String) (sup : Option ClassId) : Class where
  name := name
  kind := .ordinary
  loader := none
  accessFlags := 33
  super := sup
  interfaces := #[]
  cf := none
  fields := #[]
  methods := #[]
  instanceTypes := #[]
  staticTypes := #[]
  resolved := #[]
  callSites := []
  init := .initialized
  statics := none
  mirror := none

def pool0 : Array CpInfo := pool [(5, u "<init>"), (0, u "()V"), (1, .class_ 10), (1, u "java/lang/Object")] 113

def k0m0 : Method := { name := "<init>", desc := "()V", sig := { parameters := [], returnType := none }, accessFlags := 1, code := none }
/-- java/lang/Object -/
def k0 : Class := { plain "java/lang/Object" none with
  accessFlags := 33
  interfaces := #[]
  cf := some (fileOf pool0 8 #[] #[{ accessFlags := 1, nameIndex := 5, descriptorIndex := 6, attributes := #[] }] 33 0 #[] #[])
  fields := #[]
  methods := #[k0m0]
  instanceTypes := #[]
  staticTypes := #[]
  resolved := Array.replicate 124 none
  statics := none }

def pool1 : Array CpInfo := pool [(2, .class_ 4), (1, u "java/lang/Object"), (0, u "<init>"), (0, u "()V"), (0, .integer 2147483647), (0, .integer 65535), (0, .long 10), (1, .long 100), (1, .long 1000), (1, .long 10000), (1, .long 100000), (1, .long 1000000), (1, .long 10000000), (1, .long 100000000), (1, .long 1000000000), (1, .long 10000000000), (1, .long 100000000000), (1, .methodref 32 33), (0, .class_ 34), (0, .nameAndType 35 36), (0, u "com/example/kalend/kalend/util/Digits"), (0, u "write"), (0, u "([CIII)V"), (0, .methodref 38 39), (0, .class_ 40), (0, .nameAndType 41 42), (0, u "com/example/kalend/kalend/util/DigitsWritePinLaw"), (0, u "ok"), (0, u "([CIIIIC[J)Z"), (2, u "law"), (0, u "(IIII)Z")] 7

def k1m0 : Method := { name := "<init>", desc := "()V", sig := { parameters := [], returnType := none }, accessFlags := 2, code := none }
def k1c1 : Code := { maxStack := 7, maxLocals := 11, code := code, exceptionTable := #[], attributes := #[] }
def k1m1 : Method := { name := "law", desc := "(IIII)Z", sig := { parameters := [.int, .int, .int, .int], returnType := some .boolean }, accessFlags := 9, code := some k1c1 }
def k1c2 : Code := { maxStack := 4, maxLocals := 9, code := method_3_code, exceptionTable := #[], attributes := #[] }
def k1m2 : Method := { name := "ok", desc := "([CIIIIC[J)Z", sig := { parameters := [(.array .char), .int, .int, .int, .int, .char, (.array .long)], returnType := some .boolean }, accessFlags := 10, code := some k1c2 }
/-- com/example/kalend/kalend/util/DigitsWritePinLaw -/
def k1 : Class := { plain "com/example/kalend/kalend/util/DigitsWritePinLaw" (some 0) with
  accessFlags := 49
  interfaces := #[]
  cf := some (fileOf pool1 38 #[] #[{ accessFlags := 2, nameIndex := 5, descriptorIndex := 6, attributes := #[] }, { accessFlags := 9, nameIndex := 45, descriptorIndex := 46, attributes := #[] }, { accessFlags := 10, nameIndex := 41, descriptorIndex := 42, attributes := #[] }] 49 2 #[] #[])
  fields := #[]
  methods := #[k1m0, k1m1, k1m2]
  instanceTypes := #[]
  staticTypes := #[]
  resolved := Array.replicate 54 none
  statics := none }

def pool2 : Array CpInfo := pool [(1, .class_ 2), (0, u "com/example/kalend/kalend/util/Digits"), (1, .class_ 6), (1, u "java/lang/Object"), (0, u "<init>"), (0, u "()V"), (20, u "PAIR_VALUES"), (0, u "[B"), (13, u "PAIR_BITS"), (0, u "I"), (2, u "NOT_A_PAIR"), (1, u "LATIN_1_LAST"), (7, u "write"), (0, u "([CIII)V")] 4

def k2m0 : Method := { name := "<init>", desc := "()V", sig := { parameters := [], returnType := none }, accessFlags := 2, code := none }
def k2c1 : Code := { maxStack := 5, maxLocals := 6, code := prog_18_method_6_code, exceptionTable := #[], attributes := #[] }
def k2m1 : Method := { name := "write", desc := "([CIII)V", sig := { parameters := [(.array .char), .int, .int, .int], returnType := none }, accessFlags := 9, code := some k2c1 }
/-- com/example/kalend/kalend/util/Digits -/
def k2 : Class := { plain "com/example/kalend/kalend/util/Digits" (some 0) with
  accessFlags := 49
  interfaces := #[]
  cf := some (fileOf pool2 1 #[] #[{ accessFlags := 2, nameIndex := 7, descriptorIndex := 8, attributes := #[] }, { accessFlags := 9, nameIndex := 58, descriptorIndex := 59, attributes := #[] }] 49 4 #[] #[{ accessFlags := 25, nameIndex := 44, descriptorIndex := 45, attributes := #[] }, { accessFlags := 25, nameIndex := 48, descriptorIndex := 45, attributes := #[] }, { accessFlags := 26, nameIndex := 50, descriptorIndex := 45, attributes := #[] }, { accessFlags := 26, nameIndex := 29, descriptorIndex := 30, attributes := #[] }])
  fields := #[{ name := "PAIR_BITS", type := .int, accessFlags := 25, slot := 0, constantValue := 0 }, { name := "NOT_A_PAIR", type := .int, accessFlags := 25, slot := 1, constantValue := 0 }, { name := "LATIN_1_LAST", type := .int, accessFlags := 26, slot := 2, constantValue := 0 }, { name := "PAIR_VALUES", type := (.array .byte), accessFlags := 26, slot := 3, constantValue := 0 }]
  methods := #[k2m0, k2m1]
  instanceTypes := #[]
  staticTypes := #[.int, .int, .int, (.array .byte)]
  resolved := Array.replicate 64 none
  statics := none }

def pool3 : Array CpInfo := pool [(1, u "java/lang/Cloneable"), (0, .class_ 1), (0, u "java/lang/Object"), (0, .class_ 3)] 3

/-- java/lang/Cloneable -/
def k3 : Class := { plain "java/lang/Cloneable" (some 0) with
  accessFlags := 1537
  interfaces := #[]
  cf := some (fileOf pool3 2 #[] #[] 1537 4 #[] #[])
  fields := #[]
  methods := #[]
  instanceTypes := #[]
  staticTypes := #[]
  resolved := Array.replicate 8 none
  statics := none }

def pool4 : Array CpInfo := pool [(1, u "java/io/Serializable"), (0, .class_ 1), (0, u "java/lang/Object"), (0, .class_ 3)] 3

/-- java/io/Serializable -/
def k4 : Class := { plain "java/io/Serializable" (some 0) with
  accessFlags := 1537
  interfaces := #[]
  cf := some (fileOf pool4 2 #[] #[] 1537 4 #[] #[])
  fields := #[]
  methods := #[]
  instanceTypes := #[]
  staticTypes := #[]
  resolved := Array.replicate 8 none
  statics := none }

/-- the primitive byte -/
def k5 : Class := { plain "byte" none with kind := .primitive 'B', accessFlags := 0x411 }
/-- [B -/
def k6 : Class := { plain "[B" (some 0) with kind := .array 5 .byte, interfaces := #[3, 4], accessFlags := 1041 }

/-- the primitive char -/
def k7 : Class := { plain "char" none with kind := .primitive 'C', accessFlags := 0x411 }
/-- [C -/
def k8 : Class := { plain "[C" (some 0) with kind := .array 7 .char, interfaces := #[3, 4], accessFlags := 1041 }

/-- the primitive int -/
def k9 : Class := { plain "int" none with kind := .primitive 'I', accessFlags := 0x411 }
/-- [I -/
def k10 : Class := { plain "[I" (some 0) with kind := .array 9 .int, interfaces := #[3, 4], accessFlags := 1041 }

/-- the primitive long -/
def k11 : Class := { plain "long" none with kind := .primitive 'J', accessFlags := 0x411 }
/-- [J -/
def k12 : Class := { plain "[J" (some 0) with kind := .array 11 .long, interfaces := #[3, 4], accessFlags := 1041 }

def heap : Heap := #[]
def classes : Array Class := #[k0, k1, k2, k3, k4, k5, k6, k7, k8, k9, k10, k11, k12]
def interned : List (Array UInt16 × Addr) := []
def slotsUsed : Nat := 0
def theMethod : MethodId := ⟨1, 1⟩
def args0 : Array Value := #[.int 5, .int 3, .int 7, .int 48]
def aboutOver (below : List Frame) : State where
  vm := { classes := classes, interned := interned.toArray }
  heap := heap
  slotsUsed := slotsUsed
  threads := #[{ frames := .invoking theMethod args0 :: below }]
def below0 : List Frame := [.native { method := ⟨0, 0⟩, args := #[] }]
def about1 : State := aboutOver below0
def p0 : Program := .bare "" "" ""
def e0 : Env := launch0.env 0 0 0
theorem w_frames : about1.frames = Frame.invoking theMethod args0 :: below0 := rfl
set_option maxRecDepth 65536 in
theorem w_args : argsFit about1.vm theMethod args0 = true := by decide +kernel
set_option maxRecDepth 65536 in
theorem w_heap : heapFits about1 = true := by decide +kernel
set_option maxRecDepth 65536 in
theorem w_runnable : about1.curStatus? = some .runnable := by decide +kernel
set_option maxRecDepth 65536 in
theorem w_alone : about1.alone = true := by decide +kernel
set_option maxRecDepth 65536 in
theorem w_named : about1.methodNamed? x = some theMethod := by decide +kernel
set_option maxRecDepth 65536 in
theorem w_hears : about1.hears theMethod below0 = true := by decide +kernel
set_option maxRecDepth 65536 in
theorem w_ripe : about1.ripe theMethod args0 below0 = true := by decide +kernel
theorem w_running : about1.status = .running := rfl
set_option maxRecDepth 65536 in
theorem w_room : about1.hasRoom e0.platform room_1 = true :=
  launch0.hasRoom_least _ room_1 (by decide +kernel) (by decide +kernel) (by decide +kernel) (by decide +kernel) (by decide +kernel) (by decide +kernel)
theorem allAtoms_all (ts : List Jvm.Cond) (a : Array Jvm.Value) (st : Jvm.State) : (allAtoms ts).before a st = ts.all (fun c => c.before a st) := by
  induction ts with
  | nil => rfl
  | cons c t ih =>
    show (Jvm.Cond.and c (allAtoms t)).before a st = _
    rw [Jvm.Cond.before_and, ih, List.all_cons]
def words1 : List Jvm.Cond := Jvm.Cond.code x code maxLocals ret :: tables_1
/-- a 'code' word, met by the world's own term for the bytes: nothing is compared byte by byte -/
theorem code_word {y : MethodName} {bytes : ByteArray} {mx : Nat} {rt : Option FieldType} {a : Array Value} {s : State} {m : MethodId} {meth : Method} {c : Code} (h1 : s.methodNamed? y = some m) (h2 : s.vm.method? m = some meth) (h3 : meth.code = some c) (h4 : c.code = bytes)
    (h5 : (c.maxLocals == mx && c.exceptionTable.isEmpty && decide (c.maxStack ≤ mostOperands) && decide (meth.sig.returnType = rt) && !meth.locks && decide (parseMethodDescriptor y.desc = some meth.sig)) = true) : (Jvm.Cond.code y bytes mx rt).before a s = true := by
  simp only [Bool.and_eq_true, beq_iff_eq, Bool.not_eq_true', decide_eq_true_eq] at h5
  obtain ⟨⟨⟨⟨⟨g1, g2⟩, g3⟩, g4⟩, g5⟩, g6⟩ := h5
  simp [Cond.before, Cond.holds, Cond.value, h1, h2, h3, h4, g1, g2, g3, g4, g5, g6]
def isCode : Jvm.Cond → Bool
  | .code _ _ _ _ => true
  | _ => false
theorem all_split {L : List Jvm.Cond} {P : Jvm.Cond → Bool} (h1 : L.all (fun c => isCode c || P c) = true) (h2 : ∀ c ∈ L.filter isCode, P c = true) : L.all P = true := by
  refine List.all_eq_true.mpr fun c hc => ?_
  have h := List.all_eq_true.mp h1 c hc
  rcases Bool.eq_false_or_eq_true (isCode c) with hi | hi
  · exact h2 c (List.mem_filter.mpr ⟨hc, hi⟩)
  · simpa [hi] using h
set_option maxRecDepth 65536 in
theorem w_c0 : (Jvm.Cond.code x code maxLocals ret).before args0 about1 = true := code_word (m := ⟨1, 1⟩) (meth := k1m1) (c := k1c1) (by decide +kernel) rfl rfl rfl (by decide +kernel)
set_option maxRecDepth 65536 in
theorem w_c1 : (Jvm.Cond.code ({ cls := "com/example/kalend/kalend/util/Digits", name := "write", desc := "([CIII)V" } : Jvm.MethodName) prog_18_method_6_code (6 : Nat) (Option.none : Option Jvm.ClassFile.FieldType)).before args0 about1 = true := code_word (m := ⟨2, 1⟩) (meth := k2m1) (c := k2c1) (by decide +kernel) rfl rfl rfl (by decide +kernel)
set_option maxRecDepth 65536 in
theorem w_c2 : (Jvm.Cond.code ({ cls := "com/example/kalend/kalend/util/DigitsWritePinLaw", name := "ok", desc := "([CIIIIC[J)Z" } : Jvm.MethodName) method_3_code (9 : Nat) (Option.some Jvm.ClassFile.FieldType.boolean)).before args0 about1 = true := code_word (m := ⟨1, 2⟩) (meth := k1m2) (c := k1c2) (by decide +kernel) rfl rfl rfl (by decide +kernel)
def codes1 : List Jvm.Cond := [Jvm.Cond.code x code maxLocals ret, Jvm.Cond.code ({ cls := "com/example/kalend/kalend/util/Digits", name := "write", desc := "([CIII)V" } : Jvm.MethodName) prog_18_method_6_code (6 : Nat) (Option.none : Option Jvm.ClassFile.FieldType), Jvm.Cond.code ({ cls := "com/example/kalend/kalend/util/DigitsWritePinLaw", name := "ok", desc := "([CIIIIC[J)Z" } : Jvm.MethodName) method_3_code (9 : Nat) (Option.some Jvm.ClassFile.FieldType.boolean)]
set_option maxRecDepth 65536 in
theorem codes_eq : words1.filter isCode = codes1 := rfl
theorem w_codes : ∀ c ∈ words1.filter isCode, c.before args0 about1 = true := by
  rw [codes_eq]
  intro c hc
  simp only [codes1, List.mem_cons, List.not_mem_nil, or_false] at hc
  rcases hc with rfl | rfl | rfl
  · exact w_c0
  · exact w_c1
  · exact w_c2
set_option maxRecDepth 65536 in
theorem w_t1 : words1.all (fun c => isCode c || c.before args0 about1) = true := by decide +kernel
theorem w_tables : (allAtoms (Jvm.Cond.code x code maxLocals ret :: tables_1)).before args0 about1 = true := by
  rw [allAtoms_all]
  show words1.all (fun c => c.before args0 about1) = true
  refine all_split ?_ w_codes
  rw [w_t1]
set_option maxRecDepth 65536 in
theorem w_case : (Jvm.Cond.and given_1 narrow_1).before args0 about1 = true := by decide +kernel
theorem w_applies : (headSpec (Jvm.Cond.code x code maxLocals ret :: tables_1) room_1).applies x e0.platform about1 = true :=
  (Spec.applies_iff w_frames).mpr ⟨w_running, w_runnable, w_alone, w_named, w_hears, w_ripe, w_room, w_tables⟩
theorem atStart : AtStart classFile x code maxLocals ret World_1 tables_1 room_1 Calls_1 rest_1 Pre_1 launch0 p0 e0 about1 theMethod args0 below0 :=
  ⟨lists_1, trivial, launch0.admits_env _ _ _, launch0.least_env, fairChoices_fair.cas, fairChoices_fair.clock, w_frames, w_args, w_heap, w_applies, trivial, trivial, w_case⟩
end start1
theorem witness_1 : WitnessClaimed_1 := ⟨start1.p0, start1.e0, start1.about1, start1.theMethod, start1.args0, start1.below0, start1.atStart⟩
end Jvm.Pilot.@@N@@
