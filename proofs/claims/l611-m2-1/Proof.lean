import JvmDerived
import JvmDerived.Pilot.@@N@@Statement
import JvmDerived.Pilot.@@N@@Code
set_option linter.unusedVariables false
set_option linter.unusedSimpArgs false
set_option maxHeartbeats 2000000
namespace Jvm.Pilot.@@N@@
open Jvm Jvm.ClassFile Sem Op Lib Jvm.Free Jvm.Stand Jvm.LawKit Jvm.RoadKit Bundle Jvm.Pilot.@@N@@.Jvm.D
section OwnKit
variable {p : Program} {l : Launch} {e : Env} {R : Room} {s : State} {m : MethodId} {args : Array Value} {below : List Frame} {meth : Method} {c : Code} {T : State} {locs : List Loc} {cells slots : Nat} {Z : State} {h h' : Heap} {a b : Addr}
def OwnWp (p : Program) (e : Env) (below : List Frame) (s : State) (C S : Nat) (Q : Option Value → Heap → List Loc → Prop) (U : State) : Prop :=
  ∃ s₂ o, Steps p.tables e below U s₂ ∧ s₂.status = .running ∧ Ended s₂ below o ∧ ∃ v L, o = .returned v ∧ Q v s₂.heap L ∧ FrameEnd s o s₂ L C S
variable {C S : Nat} {Q : Option Value → Heap → List Loc → Prop}
theorem OwnWp.step {U U' : State} (hs : ∀ t, Steps p.tables e below U' t → Steps p.tables e below U t) (k : OwnWp p e below s C S Q U') : OwnWp p e below s C S Q U := by
  obtain ⟨s2, o, h1, r⟩ := k
  exact ⟨s2, o, hs _ h1, r⟩
theorem OwnWp.go {U U' : State} (hs : Steps p.tables e below U U') (k : OwnWp p e below s C S Q U') : OwnWp p e below s C S Q U := k.step fun _ q => hs.trans q
theorem OwnWp.cast {g g' : JFrame} (q : g = g') (k : OwnWp p e below s C S Q (T.setTop g')) : OwnWp p e below s C S Q (T.setTop g) := q ▸ k
theorem OwnWp.retI (X : Stand p l e R s m args below meth c T locs cells slots) (hx : p.tables.exec = Jvm.exec) (hlk : meth.locks = false) (hret : meth.sig.returnType = some .int) {pc : Nat} {Ls : Array Slot} {z : Int32} {rest : List Value} (hd : decode c.code pc = .ok (.ireturn, 1)) (hC : cells ≤ C) (hS : slots ≤ S) (hQ : Q (some (.int z)) T.heap locs) :
    OwnWp p e below s C S Q (T.setTop (mkF m pc Ls (.int z :: rest))) := by
  obtain ⟨fs, hr, hrun, hended, hW, hsame⟩ := X.leave (v := some (.int z)) (fun h => by rw [hret] at h; cases h) hlk
  exact ⟨_, _, retOut X hx hret rfl (Or.inl ⟨rfl, Or.inl rfl, z, rfl⟩) hd hr, hrun, hended, _, _, rfl, hQ, ⟨_, rfl⟩, hW, hsame.mono hC hS⟩
theorem OwnWp.retJ (X : Stand p l e R s m args below meth c T locs cells slots) (hx : p.tables.exec = Jvm.exec) (hlk : meth.locks = false) (hret : meth.sig.returnType = some .long) {pc : Nat} {Ls : Array Slot} {z : Int64} {rest : List Value} (hd : decode c.code pc = .ok (.lreturn, 1)) (hC : cells ≤ C) (hS : slots ≤ S) (hQ : Q (some (.long z)) T.heap locs) :
    OwnWp p e below s C S Q (T.setTop (mkF m pc Ls (.long z :: rest))) := by
  obtain ⟨fs, hr, hrun, hended, hW, hsame⟩ := X.leave (v := some (.long z)) (fun h => by rw [hret] at h; cases h) hlk
  exact ⟨_, _, retOut X hx hret rfl (Or.inr (Or.inl ⟨rfl, rfl, z, rfl⟩)) hd hr, hrun, hended, _, _, rfl, hQ, ⟨_, rfl⟩, hW, hsame.mono hC hS⟩
theorem OwnWp.retA (X : Stand p l e R s m args below meth c T locs cells slots) (hx : p.tables.exec = Jvm.exec) (hlk : meth.locks = false) {t : FieldType} (hret : meth.sig.returnType = some t) (ht : t.isReference = true) {pc : Nat} {Ls : Array Slot} {z : Addr} {rest : List Value} (hn : narrow t (.ref z) = .ref z) (hd : decode c.code pc = .ok (.areturn, 1)) (hC : cells ≤ C) (hS : slots ≤ S) (hQ : Q (some (.ref z)) T.heap locs) :
    OwnWp p e below s C S Q (T.setTop (mkF m pc Ls (.ref z :: rest))) := by
  obtain ⟨fs, hr, hrun, hended, hW, hsame⟩ := X.leave (v := some (.ref z)) (fun h => by rw [hret] at h; cases h) hlk
  exact ⟨_, _, retOut X hx hret hn (Or.inr (Or.inr (Or.inr (Or.inr ⟨rfl, ht, rfl⟩)))) hd hr, hrun, hended, _, _, rfl, hQ, ⟨_, rfl⟩, hW, hsame.mono hC hS⟩
theorem OwnWp.retZ (X : Stand p l e R s m args below meth c T locs cells slots) (hx : p.tables.exec = Jvm.exec) (hlk : meth.locks = false) (hret : meth.sig.returnType = some .boolean) {pc : Nat} {Ls : Array Slot} {z : Int32} {rest : List Value} (hd : decode c.code pc = .ok (.ireturn, 1)) (hC : cells ≤ C) (hS : slots ≤ S) (hz : z = 0 ∨ z = 1) (hQ : Q (some (.int z)) T.heap locs) :
    OwnWp p e below s C S Q (T.setTop (mkF m pc Ls (.int z :: rest))) := by
  have hn : nar .boolean z = z := by rcases hz with rfl | rfl <;> rfl
  obtain ⟨fs, hr, hrun, hended, hW, hsame⟩ := X.leave (v := some (.int (nar .boolean z))) (fun h => by rw [hret] at h; cases h) hlk
  exact ⟨_, _, retN X hx hret (Or.inl rfl) hd hr, hrun, hended, _, _, rfl, by rw [hn]; exact hQ, ⟨_, rfl⟩, hW, hsame.mono hC hS⟩
theorem OwnWp.retV (X : Stand p l e R s m args below meth c T locs cells slots) (hx : p.tables.exec = Jvm.exec) (hlk : meth.locks = false) (hret : meth.sig.returnType = none) {pc : Nat} {Ls : Array Slot} (hd : decode c.code pc = .ok (.return_, 1)) (hC : cells ≤ C) (hS : slots ≤ S) (hQ : Q none T.heap locs) :
    OwnWp p e below s C S Q (T.setTop (mkF m pc Ls [])) := by
  obtain ⟨fs, hr, hrun, hended, hW, hsame⟩ := X.leave (v := none) (fun _ => rfl) hlk
  exact ⟨_, _, X.returnOut hx hret hd hr, hrun, hended, _, _, rfl, hQ, ⟨_, rfl⟩, hW, hsame.mono hC hS⟩
theorem own_widen {cells' slots' : Nat} (X : Stand p l e R s m args below meth c T locs cells slots) (h1 : cells ≤ cells') (h2 : slots ≤ slots') : Stand p l e R s m args below meth c T locs cells' slots' := { X with same := X.same.mono h1 h2 }
theorem own_lrem {g : JFrame} {target : State} (X : Stand p l e R s m args below meth c T locs cells slots) (hx : p.tables.exec = Jvm.exec) (hg : g.method = m) {x y : Int64} {rest : List Value} (hd : decode c.code g.pc = .ok (.lrem, 1)) (hs : g.stack = .long y :: .long x :: rest) (hy : y ≠ 0)
    (hr : Steps p.tables e below (T.setTop { g with pc := g.pc + 1, stack := .long (x % y) :: rest }) target) : Steps p.tables e below (T.setTop g) target :=
  XT.lrem X.here hx hg hd hs hy (by rw [lrem_mod]; exact hr)
/-- an array: its kind, its length, what place i holds -/
def OwnA (Z : State) (h : Heap) (a : Addr) (ty : FieldType) (n : Int32) (f : Int → Value) : Prop :=
  ∃ cl : Cell, Arr Z h a cl ty ∧ (cl.slots.size : Int) = n.toInt ∧ ∀ i : Int, 0 ≤ i → i < n.toInt → cl.slots[i.toNat]? = some (f i)
def ownUpd {α : Type} (f : Int → α) (j : Int) (x : α) : Int → α := fun i => if i = j then x else f i
theorem ownUpd_same {α : Type} (f : Int → α) (j : Int) (x : α) : ownUpd f j x j = x := if_pos rfl
theorem ownUpd_ne {α : Type} (f : Int → α) (j : Int) (x : α) {i : Int} (q : i ≠ j) : ownUpd f j x i = f i := if_neg q
variable {ty : FieldType} {n : Int32} {f : Int → Value} {ws : List Addr}
theorem OwnA.lt (F : OwnA Z h a ty n f) : a < h.size := by obtain ⟨_, A, -⟩ := F; exact A.lt
theorem OwnA.ext (F : OwnA Z h a ty n f) (E : Ext h h') : OwnA Z h' a ty n f := by obtain ⟨cl, A, r⟩ := F; exact ⟨cl, A.ext E, r⟩
theorem OwnA.keep (F : OwnA Z h a ty n f) (K : Keep h h' ws) (q : a ∉ ws) : OwnA Z h' a ty n f := by obtain ⟨cl, A, r⟩ := F; exact ⟨cl, ⟨K.2.1 a cl A.1 q, A.2⟩, r⟩
theorem OwnA.other {sl : Nat} {v : Value} (F : OwnA Z h b ty n f) (W : Wr h h' a sl v) (q : b ≠ a) : OwnA Z h' b ty n f := by obtain ⟨cl, A, r⟩ := F; exact ⟨cl, A.other W q, r⟩
theorem OwnA.len (F : OwnA Z h a ty n f) : 0 ≤ n.toInt := by obtain ⟨cl, _, r, _⟩ := F; omega
theorem OwnA.congr {f' : Int → Value} (F : OwnA Z h a ty n f) (q : ∀ i, 0 ≤ i → i < n.toInt → f i = f' i) : OwnA Z h a ty n f' := by obtain ⟨cl, A, r1, r2⟩ := F; exact ⟨cl, A, r1, fun i h1 h2 => by rw [← q i h1 h2]; exact r2 i h1 h2⟩
theorem own_clamp (j : Int32) : j.toNatClampNeg = j.toInt.toNat := rfl
theorem own_in {cl : Cell} {j : Int32} (r : (cl.slots.size : Int) = n.toInt) (h1 : 0 ≤ j.toInt) (h2 : j.toInt < n.toInt) : ¬ (j < 0 ∨ cl.slots.size ≤ j.toNatClampNeg) := by
  rw [own_clamp, Int32.lt_iff_toInt_lt, Int32.toInt_zero]; omega
theorem OwnA.new {k : ClassId} {z : Int32} (A : Arr Z h a (newA k ty z) ty) (q : 0 ≤ z.toInt) : OwnA Z h a ty z (fun _ => defaultValue ty) := by
  refine ⟨_, A, ?_, fun i h1 h2 => ?_⟩
  · rw [sz_new, own_clamp]; omega
  · have hi : i.toNat < z.toNatClampNeg := by rw [own_clamp]; omega
    show (Array.replicate z.toNatClampNeg (defaultValue ty))[i.toNat]? = _
    rw [Array.getElem?_replicate, if_pos hi]
theorem OwnA.set {j : Int32} {v : Value} (F : OwnA Z h a ty n f) (h1 : 0 ≤ j.toInt) (h2 : j.toInt < n.toInt) (W : Wr h h' a j.toNatClampNeg v) : OwnA Z h' a ty n (ownUpd f j.toInt v) := by
  obtain ⟨cl, A, r1, r2⟩ := F
  refine ⟨_, A.same W, by rw [sz_set]; exact r1, fun i g1 g2 => ?_⟩
  by_cases q : i = j.toInt
  · subst q
    rw [ownUpd_same]
    have hi : j.toNatClampNeg < cl.slots.size := by rw [own_clamp]; omega
    exact Array.getElem?_setIfInBounds_self_of_lt hi
  · rw [ownUpd_ne _ _ _ q, ← r2 i g1 g2, own_clamp]
    exact Array.getElem?_setIfInBounds_ne (by omega)
variable {g : JFrame} {target : State} {rest : List Value} {j : Int32}
theorem OwnA.alen (X : Stand p l e R s m args below meth c T locs cells slots) (hx : p.tables.exec = Jvm.exec) (hZ : Z.Warmed39 s.vm) (eT : T.heap = h) (F : OwnA Z h a ty n f) (hg : g.method = m) (hs : g.stack = .ref a :: rest) (hd : decode c.code g.pc = .ok (.arraylength, 1))
    (hr : Steps p.tables e below (T.setTop { g with pc := g.pc + 1, stack := .int n :: rest }) target) : Steps p.tables e below (T.setTop g) target := by
  obtain ⟨cl, A, r1, r2⟩ := F
  subst eT
  refine X.arraylength hx A.1 (State.isArrayOf_alike hZ.alike A.2.1) hg hs hd target ?_
  have q : cl.slots.size.toInt32 = n := by
    have q0 : cl.slots.size = n.toNatClampNeg := by rw [own_clamp]; omega
    exact len_of q0 (by rw [Int32.lt_iff_toInt_lt, Int32.toInt_zero]; omega)
  rw [q]; exact hr
theorem OwnA.ldI (X : Stand p l e R s m args below meth c T locs cells slots) (hx : p.tables.exec = Jvm.exec) (hZ : Z.Warmed39 s.vm) (eT : T.heap = h) (F : OwnA Z h a .int n f) (h1 : 0 ≤ j.toInt) (h2 : j.toInt < n.toInt) (hg : g.method = m) (hs : g.stack = .int j :: .ref a :: rest) (hd : decode c.code g.pc = .ok (.iaload, 1))
    (hr : Steps p.tables e below (T.setTop { g with pc := g.pc + 1, stack := f j.toInt :: rest }) target) : Steps p.tables e below (T.setTop g) target := by
  obtain ⟨cl, A, r1, r2⟩ := F
  subst eT
  exact X.iaload hx A.1 (State.isArrayOf_alike hZ.alike A.2.1) A.2.2 (own_in r1 h1 h2) (r2 _ h1 h2) hg hs hd target hr
theorem OwnA.ldJ (X : Stand p l e R s m args below meth c T locs cells slots) (hx : p.tables.exec = Jvm.exec) (hZ : Z.Warmed39 s.vm) (eT : T.heap = h) (F : OwnA Z h a .long n f) (h1 : 0 ≤ j.toInt) (h2 : j.toInt < n.toInt) (hg : g.method = m) (hs : g.stack = .int j :: .ref a :: rest) (hd : decode c.code g.pc = .ok (.laload, 1))
    (hr : Steps p.tables e below (T.setTop { g with pc := g.pc + 1, stack := f j.toInt :: rest }) target) : Steps p.tables e below (T.setTop g) target := by
  obtain ⟨cl, A, r1, r2⟩ := F
  subst eT
  exact X.laload hx A.1 (State.isArrayOf_alike hZ.alike A.2.1) A.2.2 (own_in r1 h1 h2) (r2 _ h1 h2) hg hs hd target hr
theorem OwnA.ldC (X : Stand p l e R s m args below meth c T locs cells slots) (hx : p.tables.exec = Jvm.exec) (hZ : Z.Warmed39 s.vm) (eT : T.heap = h) (F : OwnA Z h a .char n f) (h1 : 0 ≤ j.toInt) (h2 : j.toInt < n.toInt) (hg : g.method = m) (hs : g.stack = .int j :: .ref a :: rest) (hd : decode c.code g.pc = .ok (.caload, 1))
    (hr : Steps p.tables e below (T.setTop { g with pc := g.pc + 1, stack := f j.toInt :: rest }) target) : Steps p.tables e below (T.setTop g) target := by
  obtain ⟨cl, A, r1, r2⟩ := F
  subst eT
  exact X.caload hx A.1 (State.isArrayOf_alike hZ.alike A.2.1) A.2.2 (own_in r1 h1 h2) (r2 _ h1 h2) hg hs hd target hr
theorem OwnA.ldB (X : Stand p l e R s m args below meth c T locs cells slots) (hx : p.tables.exec = Jvm.exec) (hZ : Z.Warmed39 s.vm) (eT : T.heap = h) (F : OwnA Z h a .byte n f) (h1 : 0 ≤ j.toInt) (h2 : j.toInt < n.toInt) (hg : g.method = m) (hs : g.stack = .int j :: .ref a :: rest) (hd : decode c.code g.pc = .ok (.baload, 1))
    (hr : Steps p.tables e below (T.setTop { g with pc := g.pc + 1, stack := f j.toInt :: rest }) target) : Steps p.tables e below (T.setTop g) target := by
  obtain ⟨cl, A, r1, r2⟩ := F
  subst eT
  exact X.baloadBytes hx A.1 (State.isArrayOf_alike hZ.alike A.2.1) A.2.2 (own_in r1 h1 h2) (r2 _ h1 h2) hg hs hd target hr
theorem OwnA.ldZ (X : Stand p l e R s m args below meth c T locs cells slots) (hx : p.tables.exec = Jvm.exec) (hZ : Z.Warmed39 s.vm) (eT : T.heap = h) (F : OwnA Z h a .boolean n f) (h1 : 0 ≤ j.toInt) (h2 : j.toInt < n.toInt) (hg : g.method = m) (hs : g.stack = .int j :: .ref a :: rest) (hd : decode c.code g.pc = .ok (.baload, 1))
    (hr : Steps p.tables e below (T.setTop { g with pc := g.pc + 1, stack := f j.toInt :: rest }) target) : Steps p.tables e below (T.setTop g) target := by
  obtain ⟨cl, A, r1, r2⟩ := F
  subst eT
  exact X.baloadBooleans hx A.1 (State.isArrayOf_alike hZ.alike A.2.1) A.2.2 (own_in r1 h1 h2) (r2 _ h1 h2) hg hs hd target hr
theorem own_frs {k : Nat} {sl : Nat} (N : Fr k locs) (q : k ≤ a) : Fr k (locs ++ [⟨a, sl⟩]) := N.app fun y hy => by cases List.mem_singleton.mp hy; exact q
theorem OwnA.stI {n0 : Nat} {x : Int32} (X : Stand p l e R s m args below meth c T locs cells slots) (hx : p.tables.exec = Jvm.exec) (hZ : Z.Warmed39 s.vm) (eT : T.heap = h) (N : Fr n0 locs) (q : n0 ≤ a) (F : OwnA Z h a .int n f) (h1 : 0 ≤ j.toInt) (h2 : j.toInt < n.toInt) (hg : g.method = m) (hs : g.stack = .int x :: .int j :: .ref a :: rest) (hd : decode c.code g.pc = .ok (.iastore, 1)) :
    ∃ T' h' L', Stand p l e R s m args below meth c T' L' cells slots ∧ T'.heap = h' ∧ Fr n0 L' ∧ Keep h h' [a] ∧ OwnA Z h' a .int n (ownUpd f j.toInt (.int x)) ∧ ∀ target, Steps p.tables e below (T'.setTop { g with pc := g.pc + 1, stack := rest }) target → Steps p.tables e below (T.setTop g) target := by
  obtain ⟨cl, A, r1, r2⟩ := id F
  obtain ⟨T', h', X', e', W, st⟩ := RoadKit.stI X hx hZ eT A (own_in r1 h1 h2) hg hs hd
  exact ⟨T', h', _, X', e', own_frs N q, Keep.of_wr W, F.set h1 h2 W, st⟩
theorem OwnA.stJ {n0 : Nat} {x : Int64} (X : Stand p l e R s m args below meth c T locs cells slots) (hx : p.tables.exec = Jvm.exec) (hZ : Z.Warmed39 s.vm) (eT : T.heap = h) (N : Fr n0 locs) (q : n0 ≤ a) (F : OwnA Z h a .long n f) (h1 : 0 ≤ j.toInt) (h2 : j.toInt < n.toInt) (hg : g.method = m) (hs : g.stack = .long x :: .int j :: .ref a :: rest) (hd : decode c.code g.pc = .ok (.lastore, 1)) :
    ∃ T' h' L', Stand p l e R s m args below meth c T' L' cells slots ∧ T'.heap = h' ∧ Fr n0 L' ∧ Keep h h' [a] ∧ OwnA Z h' a .long n (ownUpd f j.toInt (.long x)) ∧ ∀ target, Steps p.tables e below (T'.setTop { g with pc := g.pc + 1, stack := rest }) target → Steps p.tables e below (T.setTop g) target := by
  obtain ⟨cl, A, r1, r2⟩ := id F
  obtain ⟨T', h', X', e', W, st⟩ := RoadKit.stJ X hx hZ eT A (own_in r1 h1 h2) hg hs hd
  exact ⟨T', h', _, X', e', own_frs N q, Keep.of_wr W, F.set h1 h2 W, st⟩
theorem OwnA.stC {n0 : Nat} {x : Int32} (X : Stand p l e R s m args below meth c T locs cells slots) (hx : p.tables.exec = Jvm.exec) (hZ : Z.Warmed39 s.vm) (eT : T.heap = h) (N : Fr n0 locs) (q : n0 ≤ a) (F : OwnA Z h a .char n f) (h1 : 0 ≤ j.toInt) (h2 : j.toInt < n.toInt) (hg : g.method = m) (hs : g.stack = .int x :: .int j :: .ref a :: rest) (hd : decode c.code g.pc = .ok (.castore, 1)) :
    ∃ T' h' L', Stand p l e R s m args below meth c T' L' cells slots ∧ T'.heap = h' ∧ Fr n0 L' ∧ Keep h h' [a] ∧ OwnA Z h' a .char n (ownUpd f j.toInt (.int (nar .char x))) ∧ ∀ target, Steps p.tables e below (T'.setTop { g with pc := g.pc + 1, stack := rest }) target → Steps p.tables e below (T.setTop g) target := by
  obtain ⟨cl, A, r1, r2⟩ := id F
  obtain ⟨T', h', X', e', W, st⟩ := RoadKit.stC X hx hZ eT A (own_in r1 h1 h2) hg hs hd
  exact ⟨T', h', _, X', e', own_frs N q, Keep.of_wr W, F.set h1 h2 W, st⟩
theorem OwnA.stB {n0 : Nat} {x : Int32} (X : Stand p l e R s m args below meth c T locs cells slots) (hx : p.tables.exec = Jvm.exec) (hZ : Z.Warmed39 s.vm) (eT : T.heap = h) (N : Fr n0 locs) (q : n0 ≤ a) (F : OwnA Z h a .byte n f) (h1 : 0 ≤ j.toInt) (h2 : j.toInt < n.toInt) (hg : g.method = m) (hs : g.stack = .int x :: .int j :: .ref a :: rest) (hd : decode c.code g.pc = .ok (.bastore, 1)) :
    ∃ T' h' L', Stand p l e R s m args below meth c T' L' cells slots ∧ T'.heap = h' ∧ Fr n0 L' ∧ Keep h h' [a] ∧ OwnA Z h' a .byte n (ownUpd f j.toInt (.int (nar .byte x))) ∧ ∀ target, Steps p.tables e below (T'.setTop { g with pc := g.pc + 1, stack := rest }) target → Steps p.tables e below (T.setTop g) target := by
  obtain ⟨cl, A, r1, r2⟩ := id F
  obtain ⟨T', h', X', e', W, st⟩ := RoadKit.stB X hx hZ eT A (own_in r1 h1 h2) hg hs hd
  exact ⟨T', h', _, X', e', own_frs N q, Keep.of_wr W, F.set h1 h2 W, st⟩
theorem OwnA.stZ {n0 : Nat} {x : Int32} (X : Stand p l e R s m args below meth c T locs cells slots) (hx : p.tables.exec = Jvm.exec) (hZ : Z.Warmed39 s.vm) (eT : T.heap = h) (N : Fr n0 locs) (q : n0 ≤ a) (F : OwnA Z h a .boolean n f) (h1 : 0 ≤ j.toInt) (h2 : j.toInt < n.toInt) (hg : g.method = m) (hs : g.stack = .int x :: .int j :: .ref a :: rest) (hd : decode c.code g.pc = .ok (.bastore, 1)) :
    ∃ T' h' L', Stand p l e R s m args below meth c T' L' cells slots ∧ T'.heap = h' ∧ Fr n0 L' ∧ Keep h h' [a] ∧ OwnA Z h' a .boolean n (ownUpd f j.toInt (.int (nar .boolean x))) ∧ ∀ target, Steps p.tables e below (T'.setTop { g with pc := g.pc + 1, stack := rest }) target → Steps p.tables e below (T.setTop g) target := by
  obtain ⟨cl, A, r1, r2⟩ := id F
  obtain ⟨T', h', X', e', W, st⟩ := RoadKit.stZ X hx hZ eT A (own_in r1 h1 h2) hg hs hd
  exact ⟨T', h', _, X', e', own_frs N q, Keep.of_wr W, F.set h1 h2 W, st⟩
end OwnKit
theorem own_ofi {n : Int} (h1 : -2147483648 ≤ n) (h2 : n < 2147483648) : (Int32.ofInt n).toInt = n := by
  rw [Int32.toInt_ofInt, show Int32.size = 4294967296 from rfl, Int.bmod_eq_of_le (by omega) (by omega)]
theorem own_ofj {n : Int} (h1 : -9223372036854775808 ≤ n) (h2 : n < 9223372036854775808) : (Int64.ofInt n).toInt = n := by
  rw [Int64.toInt_ofInt, show Int64.size = 18446744073709551616 from rfl, Int.bmod_eq_of_le (by omega) (by omega)]
/-- an int between 0 and n is one of finitely many -/
theorem own_fin {x : Int32} {n : Nat} (h1 : 0 ≤ x.toInt) (h2 : x.toInt < n) : ∃ k : Fin n, x = Int32.ofInt (k.1 : Int) := by
  have h3 := x.toInt_lt
  refine ⟨⟨x.toInt.toNat, by omega⟩, Int32.toInt_inj.mp ?_⟩
  show _ = (Int32.ofInt ((x.toInt.toNat : Nat) : Int)).toInt
  rw [own_ofi (by omega) (by omega)]; omega
theorem own_selpriv {s : State} {args : Array Value} {y z : MethodName} {own C : String} {mc : ClassId} (e : y.cls = z.cls) (_hown : s.vm.findClass own = some mc) (sel : (Cond.selects C z z).before args s = true)
    (hpriv : s.PrivateAt y) (hinst : (Cond.instanceMethod y).before args s = true) (hy : y.cls ≠ "java/lang/invoke/MethodHandle" ∧ y.cls ≠ "java/lang/invoke/VarHandle") : (Cond.selects y.cls y y).before args s = true := by
  obtain ⟨c, r, mz, -, -, hn, -, k, hk, hni⟩ := Cond.selects_spec sel
  have hc := findClass_of_methodNamed hn
  exact Jvm.Stand.selects_self_of_private (by rw [e]; exact hc) hk hni hpriv hinst hy

def own_drops (g : Int → Int32) (cap : Int64) : Nat → Int32 → Int32 → Int64 → Int32 × Int32 × Int64
  | 0, o, s, d => (o, s, d)
  | k + 1, o, s, d => if (0 : Int32) < s ∧ ¬ s.toInt64 < cap then own_drops g cap k ((o + (1 : Int32)) % (16 : Int32)) (s - (1 : Int32)) (if g o.toInt = 0 then d else d - (1 : Int64)) else (o, s, d)
def own_isdrops (g : Int → Int32) (cap : Int64) (n : Nat) (o s : Int32) (d : Int64) (o1 s1 : Int32) (d1 : Int64) : Prop := own_drops g cap n o s d = (o1, s1, d1)
def own_cont (g : Int → Int32) (cap : Int64) (n : Nat) (o s : Int32) (d : Int64) (k : Nat) (o1 s1 : Int32) (d1 : Int64) : Prop := own_drops g cap n o s d = own_drops g cap k o1 s1 d1
def own_admD (g : Int → Int32) (j : Int) (d : Int64) : Int64 := if g j = 0 then d + (1 : Int64) else d
def own_adm (g : Int → Int32) (j : Int) : Int → Int32 := if g j = 0 then ownUpd g j (nar .boolean (1 : Int32)) else g
def own_after (g : Int → Int32) (o : Int32) (d : Int64) : Int64 := d - (if g o.toInt = (0 : Int32) then (0 : Int32) else (1 : Int32)).toInt64
theorem own_cont0 (g : Int → Int32) (cap : Int64) (n : Nat) (o s : Int32) (d : Int64) : own_cont g cap n o s d n o s d := rfl
theorem own_stop1 {g : Int → Int32} {cap : Int64} {n : Nat} {o s : Int32} {d : Int64} {k : Nat} {o1 s1 : Int32} {d1 : Int64} (h : own_cont g cap n o s d k o1 s1 d1) (c : ¬ (0 : Int32) < s1) : own_isdrops g cap n o s d o1 s1 d1 := by
  unfold own_isdrops; rw [h]
  cases k with
  | zero => rfl
  | succ k => show (if _ then _ else _) = _; rw [if_neg (fun q => c q.1)]
theorem own_stop2 {g : Int → Int32} {cap : Int64} {n : Nat} {o s : Int32} {d : Int64} {k : Nat} {o1 s1 : Int32} {d1 : Int64} (h : own_cont g cap n o s d k o1 s1 d1) (c : s1.toInt64 < cap) : own_isdrops g cap n o s d o1 s1 d1 := by
  unfold own_isdrops; rw [h]
  cases k with
  | zero => rfl
  | succ k => show (if _ then _ else _) = _; rw [if_neg (fun q => q.2 c)]
theorem own_up (s : Int32) (h1 : 0 ≤ s.toInt) (h2 : s.toInt ≤ 100) : (s + (1 : Int32)).toInt = s.toInt + 1 := by
  have a := c_iadd s 1
  rw [show (1 : Int32).toInt = 1 from rfl] at a
  have b := rng32 (s + 1)
  omega
theorem own_dn (s : Int32) (h1 : 0 ≤ s.toInt) (h2 : s.toInt ≤ 100) : (s - (1 : Int32)).toInt = s.toInt - 1 := by
  have a := c_isub s 1
  rw [show (1 : Int32).toInt = 1 from rfl] at a
  have b := rng32 (s - 1)
  omega
theorem own_r16 (s : Int32) (h1 : 0 ≤ s.toInt) : 0 ≤ (s % (16 : Int32)).toInt ∧ (s % (16 : Int32)).toInt < 16 := by
  have a := (c_irem s 16 16 rfl).1 h1
  omega
theorem own_turn {g : Int → Int32} {p2 : Int64} {n : Nat} {o s0 : Int32} {d : Int64} {k : Nat} {ox sx : Int32} {dx : Int64} (hk : sx.toInt = ((k + 1 : Nat) : Int)) (hox : 0 ≤ ox.toInt ∧ ox.toInt < 16) (hsx : sx.toInt ≤ s0.toInt) (hs : 0 ≤ s0.toInt ∧ s0.toInt ≤ 15) (h : own_cont g p2 n o s0 d (k + 1) ox sx dx) (c : (0 : Int32) < sx) (c2 : ¬ sx.toInt64 < p2) :
    (sx - (1 : Int32)).toInt = (k : Int) ∧ (0 ≤ ((ox + (1 : Int32)) % (16 : Int32)).toInt ∧ ((ox + (1 : Int32)) % (16 : Int32)).toInt < 16) ∧ (sx - (1 : Int32)).toInt ≤ s0.toInt ∧ own_cont g p2 n o s0 d k ((ox + (1 : Int32)) % (16 : Int32)) (sx - (1 : Int32)) (if g ox.toInt = 0 then dx else dx - (1 : Int64)) := by
  have a := own_dn sx (by omega) (by omega)
  have b := own_up ox (by omega) (by omega)
  refine ⟨by omega, own_r16 _ (by omega), by omega, ?_⟩
  unfold own_cont at h ⊢
  rw [h]
  show (if _ then _ else _) = _
  rw [if_pos ⟨c, c2⟩]
theorem own_n16 (sx s0 : Int32) (h : sx.toInt ≤ s0.toInt) (hs : 0 ≤ s0.toInt ∧ s0.toInt ≤ 15) : ¬ sx = (16 : Int32) := fun q => by
  rw [q, show (16 : Int32).toInt = 16 from rfl] at h; omega
theorem own_ix (o s : Int32) (ho : 0 ≤ o.toInt ∧ o.toInt < 16) (h1 : 0 ≤ s.toInt) (h2 : s.toInt ≤ 15) (w : Int32) (q : w = (o + s) % (16 : Int32)) : 0 ≤ w.toInt ∧ w.toInt < (16 : Int32).toInt := by
  have a := c_iadd o s
  have b := rng32 (o + s)
  have c := own_r16 (o + s) (by omega)
  rw [q, show (16 : Int32).toInt = 16 from rfl]; exact c
theorem own_jx (o s : Int32) (ho : 0 ≤ o.toInt ∧ o.toInt < 16) (hs : 0 ≤ s.toInt ∧ s.toInt ≤ 15) (h1 : 1 ≤ s.toInt) (w : Int32) (q : w = ((o + s) - (1 : Int32)) % (16 : Int32)) : 0 ≤ w.toInt ∧ w.toInt < (16 : Int32).toInt := by
  have a := c_iadd o s
  have b := rng32 (o + s)
  have d := own_dn (o + s) (by omega) (by omega)
  have c := own_r16 (o + s - 1) (by omega)
  rw [q, show (16 : Int32).toInt = 16 from rfl]; exact c
theorem own_sp (s : Int32) (m m' : Int) (h : m < 100) (hm : m' = m + 1) (hs : 0 ≤ s.toInt ∧ s.toInt ≤ m) : 0 ≤ (s + (1 : Int32)).toInt ∧ (s + (1 : Int32)).toInt ≤ m' ∧ 1 ≤ (s + (1 : Int32)).toInt := by
  have a := own_up s hs.1 (by omega)
  omega
theorem own_bit (x : Int32) (c : Int32) (w : Int32) (q : w = (if (x &&& c) = (0 : Int32) then (0 : Int32) else (1 : Int32))) : w = 0 ∨ w = 1 := by
  rw [q]; split
  · exact Or.inl rfl
  · exact Or.inr rfl
theorem own_cap (p w : Int64) (x : Int32) (q : w = (1 : Int64) + (x &&& (3 : Int32)).toInt64) : w = 1 ∨ w = 2 ∨ w = 3 ∨ w = 4 := by
  have e := c_mask x 3 2 (by decide) (by decide)
  obtain ⟨k, hk⟩ := own_fin (n := 4) (x := x &&& 3) (by omega) (by omega)
  rw [hk] at q
  have hall : ∀ k : Fin 4, (1 : Int64) + (Int32.ofInt (k.1 : Int)).toInt64 = 1 ∨ (1 : Int64) + (Int32.ofInt (k.1 : Int)).toInt64 = 2 ∨ (1 : Int64) + (Int32.ofInt (k.1 : Int)).toInt64 = 3 ∨ (1 : Int64) + (Int32.ofInt (k.1 : Int)).toInt64 = 4 := by decide +kernel
  rw [q]; exact hall k

theorem d1_0 : decode prog_21_method_1_code 0 = .ok (.aload_n 0, 1) := by decide +kernel
theorem d1_1 : decode prog_21_method_1_code 1 = .ok (.invokespecial 1, 3) := by decide +kernel
theorem d1_4 : decode prog_21_method_1_code 4 = .ok (.aload_n 0, 1) := by decide +kernel
theorem d1_5 : decode prog_21_method_1_code 5 = .ok (.bipush 16, 2) := by decide +kernel
theorem d1_7 : decode prog_21_method_1_code 7 = .ok (.newarray .long, 2) := by decide +kernel
theorem d1_9 : decode prog_21_method_1_code 9 = .ok (.putfield 7, 3) := by decide +kernel
theorem d1_12 : decode prog_21_method_1_code 12 = .ok (.aload_n 0, 1) := by decide +kernel
theorem d1_13 : decode prog_21_method_1_code 13 = .ok (.bipush 16, 2) := by decide +kernel
theorem d1_15 : decode prog_21_method_1_code 15 = .ok (.newarray .boolean, 2) := by decide +kernel
theorem d1_17 : decode prog_21_method_1_code 17 = .ok (.putfield 13, 3) := by decide +kernel
theorem d1_20 : decode prog_21_method_1_code 20 = .ok (.return_, 1) := by decide +kernel
theorem pn_1 : plainFor (⟨"com/example/tynemouth/tynemouth/control/ArrivalWindow", "<init>", "()V"⟩ : MethodName) = true := plainFor_of_name (by first | (simp [plainName, overriddenIn]; done) | decide +kernel)
theorem pd_1 : parseMethodDescriptor "()V" = some ⟨[], none⟩ := by decide +kernel
theorem ef_1 (m : MethodId) (x0 : Addr) : entryFrame m #[(.ref x0)] 1 = mkF m 0 #[.val (.ref x0)] [] := by first | (simp [entryFrame, mkF, argsToLocals, Value.category, maxLocals]; done) | rfl
def Q1 (Z : State) (a1 : Addr)  (h0 : Heap) (n0 : Nat) (v : Option Value) (h : Heap) (L : List Loc) : Prop := v = none ∧ Fr n0 L ∧ Keep h0 h [a1] ∧ ∃ b1 b2 : Addr, n0 ≤ b1 ∧ n0 ≤ b2 ∧ a1 ≠ b1 ∧ a1 ≠ b2 ∧ b1 ≠ b2 ∧ Fld Z h a1 "com/example/tynemouth/tynemouth/control/ArrivalWindow" "instants" "[J" (.ref b1) ∧ Fld Z h a1 "com/example/tynemouth/tynemouth/control/ArrivalWindow" "admitted" "[Z" (.ref b2) ∧ Fld Z h a1 "com/example/tynemouth/tynemouth/control/ArrivalWindow" "oldest" "I" (.int (0 : Int32)) ∧ Fld Z h a1 "com/example/tynemouth/tynemouth/control/ArrivalWindow" "size" "I" (.int (0 : Int32)) ∧ Fld Z h a1 "com/example/tynemouth/tynemouth/control/ArrivalWindow" "admittedHeld" "J" (.long (0 : Int64)) ∧ OwnA Z h b1 .long (16 : Int32) (fun i => .long ((fun _ => (0 : Int64)) i)) ∧ OwnA Z h b2 .boolean (16 : Int32) (fun i => .int ((fun _ => (0 : Int32)) i))
set_option maxRecDepth 65536 in
set_option maxHeartbeats 40000000 in
theorem rm1 (l : Launch) (Z : State) (a0 : Array Value) (hw : ∀ d ∈ tables_1, d.before a0 Z = true) (ws : List Jvm.Cond) (a1 : Addr)  (h0 : Heap) (n0 : Nat) (Z0 : n0 ≤ h0.size) (g0 : n0 ≤ a1) (E0 : Exa Z h0 a1 "com/example/tynemouth/tynemouth/control/ArrivalWindow") (Fins : Fld Z h0 a1 "com/example/tynemouth/tynemouth/control/ArrivalWindow" "instants" "[J" .null) (Fadm : Fld Z h0 a1 "com/example/tynemouth/tynemouth/control/ArrivalWindow" "admitted" "[Z" .null) (Fold : Fld Z h0 a1 "com/example/tynemouth/tynemouth/control/ArrivalWindow" "oldest" "I" (.int (0 : Int32))) (Fsiz : Fld Z h0 a1 "com/example/tynemouth/tynemouth/control/ArrivalWindow" "size" "I" (.int (0 : Int32))) (FadmH : Fld Z h0 a1 "com/example/tynemouth/tynemouth/control/ArrivalWindow" "admittedHeld" "J" (.long (0 : Int64))) :
    MetFree l (⟨"com/example/tynemouth/tynemouth/control/ArrivalWindow", "<init>", "()V"⟩ : MethodName) (head1 (Jvm.Cond.code (⟨"com/example/tynemouth/tynemouth/control/ArrivalWindow", "<init>", "()V"⟩ : MethodName) prog_21_method_1_code 1 none :: ws) ({ frames := 1, cells := 2, slots := 32, locals := 12 } : Room)) (fun a U => a = #[(.ref a1)] ∧ Z.Warmed39 U.vm ∧ U.heap = h0) (fun _ _ _ _ _ => True) (fun _ U oc U' => ∃ v L, oc = .returned v ∧ Q1 Z a1  h0 n0 v U'.heap L ∧ FrameEnd U oc U' L ({ frames := 1, cells := 2, slots := 32, locals := 12 } : Room).cells ({ frames := 1, cells := 2, slots := 32, locals := 12 } : Room).slots) := by
  refine MetFree.of_bodySF pn_1 hisR ?_
  intro p e s m args below meth c s₁ Bd hml0 hP hK
  obtain ⟨rfl, hZ, hh⟩ := hP
  have hx := Bd.exec
  have hby := Bd.bytes
  have hlk := BodyLoose.notSynchronized Bd
  have hml : c.maxLocals = 1 := hml0
  have hown : s.vm.findClass "com/example/tynemouth/tynemouth/control/ArrivalWindow" = some m.cls := findClass_of_methodNamed Bd.named
  have hnm := (name_of_methodNamed Bd.named Bd.method).1
  have X0 : Stand p l e ({ frames := 1, cells := 2, slots := 32, locals := 12 } : Room) s m #[(.ref a1)] below meth c s₁ [] 0 0 := Stand.of_body Bd
  have e0 : s₁.heap = h0 := by rw [← hh, Bd.state]; rfl
  have N0 := Fr.nil n0
  show OwnWp p e below s ({ frames := 1, cells := 2, slots := 32, locals := 12 } : Room).cells ({ frames := 1, cells := 2, slots := 32, locals := 12 } : Room).slots (Q1 Z a1  h0 n0) (s₁.setTop (entryFrame m #[(.ref a1)] 1))
  refine OwnWp.cast (ef_1 m a1) ?_
  show OwnWp p e below s _ _ _ (s₁.setTop (mkF m 0 #[.val (.ref a1)] []))
  have K0 := Keep.refl h0 [a1]
  refine OwnWp.step (U' := s₁.setTop (mkF m 1 #[.val (.ref a1)] [(.ref a1)])) (fun t k => ?_) ?_
  · show Steps p.tables e below (s₁.setTop (mkF m 0 #[.val (.ref a1)] [])) _
    refine XS.aloadN X0.here hx rfl (hb hby d1_0) rfl rfl ?_
    show Steps p.tables e below (s₁.setTop (mkF m 1 #[.val (.ref a1)] [(.ref a1)])) _
    exact k
  obtain ⟨T1, X1, e1, st1⟩ := initO X0 hx hZ hown (hw _ (List.mem_of_getElem? (i := 6) rfl)) (hw _ (List.mem_of_getElem? (i := 7) rfl)) (hw _ (List.mem_of_getElem? (i := 8) rfl)) e0 (g := (mkF m 1 #[.val (.ref a1)] [(.ref a1)])) rfl (by rw [hml]; rfl) rfl (hb hby d1_1) (by decide) (W := 0) (by show 2 * 0 + _ ≤ _; exact Nat.le_of_eq rfl) (by decide)
  refine OwnWp.step st1 ?_
  show OwnWp p e below s _ _ _ (T1.setTop (mkF m 4 #[.val (.ref a1)] []))
  refine OwnWp.step (U' := T1.setTop (mkF m 7 #[.val (.ref a1)] [(.int (16 : Int32)), (.ref a1)])) (fun t k => ?_) ?_
  · show Steps p.tables e below (T1.setTop (mkF m 4 #[.val (.ref a1)] [])) _
    refine XS.aloadN X1.here hx rfl (hb hby d1_4) rfl rfl ?_
    show Steps p.tables e below (T1.setTop (mkF m 5 #[.val (.ref a1)] [(.ref a1)])) _
    refine XT.bipushV X1.here hx rfl (16 : Int32) (hb hby d1_5) rfl ?_
    show Steps p.tables e below (T1.setTop (mkF m 7 #[.val (.ref a1)] [(.int (16 : Int32)), (.ref a1)])) _
    exact k
  obtain ⟨T2, h2, cA2, X2, e2, E2, Ar2, st2⟩ := newP X1 hx hZ (aty := .long) (hw _ (List.mem_of_getElem? (i := 9) rfl)) e1 (g := (mkF m 7 #[.val (.ref a1)] [(.int (16 : Int32)), (.ref a1)])) rfl (hb hby d1_7) rfl (by decide) (cap := 16) (by decide) (by decide) (by decide) (by decide)
  obtain ⟨ad2, ga2⟩ : ∃ z, z = h0.size := ⟨_, rfl⟩
  rw [← ga2] at Ar2 st2
  refine OwnWp.step st2 ?_
  have ne2_3 : a1 ≠ ad2 := Nat.ne_of_lt (by rw [ga2]; exact FadmH.lt)
  have Z2 : n0 ≤ h2.size := Nat.le_trans Z0 E2.1
  have b2 : n0 ≤ ad2 := Nat.le_trans Z0 (Nat.le_of_eq ga2.symm)
  have bk2 : h0.size ≤ ad2 := by rw [ga2]; exact K0.1
  have K4 := Keep.ext K0 E2
  have f5 := Exa.ext E2 E0
  have f6 := Fld.ext E2 Fins
  have f7 := Fld.ext E2 Fadm
  have f8 := Fld.ext E2 Fold
  have f9 := Fld.ext E2 Fsiz
  have f10 := Fld.ext E2 FadmH
  have F11 : OwnA Z h2 ad2 .long (16 : Int32) (fun _ => (.long (0 : Int64))) := OwnA.new Ar2 (by decide)
  show OwnWp p e below s _ _ _ (T2.setTop (mkF m 9 #[.val (.ref a1)] [(.ref ad2), (.ref a1)]))
  obtain ⟨T12, h12, X12, e12, W12, st12⟩ := putF X2 hx hZ hown (host := "") (Or.inl (hw _ (List.mem_of_getElem? (i := 10) rfl))) Via.refl e2 f6 f5 (Or.inl (hw _ (List.mem_of_getElem? (i := 11) rfl))) (hw _ (List.mem_of_getElem? (i := 1) rfl)) (ty := (.array .long)) (by decide) rfl rfl (g := (mkF m 9 #[.val (.ref a1)] [(.ref ad2), (.ref a1)])) rfl rfl (hb hby d1_9)
  have N12 := own_frs (sl := Jvm.RoadKit.slotOf Z "com/example/tynemouth/tynemouth/control/ArrivalWindow" "instants" "[J") N0 g0
  have Z12 : n0 ≤ h12.size := by rw [W12.size]; exact Z2
  refine OwnWp.step st12 ?_
  have f13 := Exa.wr W12 f5
  have f14 := Fld.same W12 f6
  have f15 := Fld.other W12 f7 (Or.inr (slot_ne (C := "com/example/tynemouth/tynemouth/control/ArrivalWindow") (Or.inl (hw _ (List.mem_of_getElem? (i := 14) rfl))) (Or.inl (hw _ (List.mem_of_getElem? (i := 11) rfl))) (by decide) (t := (.array .boolean)) (t' := (.array .long)) (by decide) (by decide)))
  have f16 := Fld.other W12 f8 (Or.inr (slot_ne (C := "com/example/tynemouth/tynemouth/control/ArrivalWindow") (Or.inl (hw _ (List.mem_of_getElem? (i := 23) rfl))) (Or.inl (hw _ (List.mem_of_getElem? (i := 11) rfl))) (by decide) (t := .int) (t' := (.array .long)) (by decide) (by decide)))
  have f17 := Fld.other W12 f9 (Or.inr (slot_ne (C := "com/example/tynemouth/tynemouth/control/ArrivalWindow") (Or.inl (hw _ (List.mem_of_getElem? (i := 21) rfl))) (Or.inl (hw _ (List.mem_of_getElem? (i := 11) rfl))) (by decide) (t := .int) (t' := (.array .long)) (by decide) (by decide)))
  have f18 := Fld.other W12 f10 (Or.inr (slot_ne (C := "com/example/tynemouth/tynemouth/control/ArrivalWindow") (Or.inl (hw _ (List.mem_of_getElem? (i := 40) rfl))) (Or.inl (hw _ (List.mem_of_getElem? (i := 11) rfl))) (by decide) (t := .long) (t' := (.array .long)) (by decide) (by decide)))
  have f19 := OwnA.other F11 W12 ne2_3.symm
  have K20 := Keep.wr K4 W12 (Or.inl (List.mem_of_getElem? (i := 0) rfl))
  show OwnWp p e below s _ _ _ (T12.setTop (mkF m 12 #[.val (.ref a1)] []))
  refine OwnWp.step (U' := T12.setTop (mkF m 15 #[.val (.ref a1)] [(.int (16 : Int32)), (.ref a1)])) (fun t k => ?_) ?_
  · show Steps p.tables e below (T12.setTop (mkF m 12 #[.val (.ref a1)] [])) _
    refine XS.aloadN X12.here hx rfl (hb hby d1_12) rfl rfl ?_
    show Steps p.tables e below (T12.setTop (mkF m 13 #[.val (.ref a1)] [(.ref a1)])) _
    refine XT.bipushV X12.here hx rfl (16 : Int32) (hb hby d1_13) rfl ?_
    show Steps p.tables e below (T12.setTop (mkF m 15 #[.val (.ref a1)] [(.int (16 : Int32)), (.ref a1)])) _
    exact k
  obtain ⟨T21, h21, cA21, X21, e21, E21, Ar21, st21⟩ := newP X12 hx hZ (aty := .boolean) (hw _ (List.mem_of_getElem? (i := 12) rfl)) e12 (g := (mkF m 15 #[.val (.ref a1)] [(.int (16 : Int32)), (.ref a1)])) rfl (hb hby d1_15) rfl (by decide) (cap := 16) (by decide) (by decide) (by decide) (by decide)
  obtain ⟨ad21, ga21⟩ : ∃ z, z = h12.size := ⟨_, rfl⟩
  rw [← ga21] at Ar21 st21
  refine OwnWp.step st21 ?_
  have ne21_22 : a1 ≠ ad21 := Nat.ne_of_lt (by rw [ga21]; exact f18.lt)
  have ne21_23 : ad2 ≠ ad21 := Nat.ne_of_lt (by rw [ga21]; exact f19.lt)
  have Z21 : n0 ≤ h21.size := Nat.le_trans Z12 E21.1
  have b21 : n0 ≤ ad21 := Nat.le_trans Z12 (Nat.le_of_eq ga21.symm)
  have bk21 : h0.size ≤ ad21 := by rw [ga21]; exact K20.1
  have K24 := Keep.ext K20 E21
  have f25 := Exa.ext E21 f13
  have f26 := Fld.ext E21 f14
  have f27 := Fld.ext E21 f15
  have f28 := Fld.ext E21 f16
  have f29 := Fld.ext E21 f17
  have f30 := Fld.ext E21 f18
  have f31 := OwnA.ext f19 E21
  have F32 : OwnA Z h21 ad21 .boolean (16 : Int32) (fun _ => (.int (0 : Int32))) := OwnA.new Ar21 (by decide)
  show OwnWp p e below s _ _ _ (T21.setTop (mkF m 17 #[.val (.ref a1)] [(.ref ad21), (.ref a1)]))
  obtain ⟨T33, h33, X33, e33, W33, st33⟩ := putF X21 hx hZ hown (host := "") (Or.inl (hw _ (List.mem_of_getElem? (i := 13) rfl))) Via.refl e21 f27 f25 (Or.inl (hw _ (List.mem_of_getElem? (i := 14) rfl))) (hw _ (List.mem_of_getElem? (i := 1) rfl)) (ty := (.array .boolean)) (by decide) rfl rfl (g := (mkF m 17 #[.val (.ref a1)] [(.ref ad21), (.ref a1)])) rfl rfl (hb hby d1_17)
  have N33 := own_frs (sl := Jvm.RoadKit.slotOf Z "com/example/tynemouth/tynemouth/control/ArrivalWindow" "admitted" "[Z") N12 g0
  have Z33 : n0 ≤ h33.size := by rw [W33.size]; exact Z21
  refine OwnWp.step st33 ?_
  have f34 := Exa.wr W33 f25
  have f35 := Fld.other W33 f26 (Or.inr (slot_ne (C := "com/example/tynemouth/tynemouth/control/ArrivalWindow") (Or.inl (hw _ (List.mem_of_getElem? (i := 11) rfl))) (Or.inl (hw _ (List.mem_of_getElem? (i := 14) rfl))) (by decide) (t := (.array .long)) (t' := (.array .boolean)) (by decide) (by decide)))
  have f36 := Fld.same W33 f27
  have f37 := Fld.other W33 f28 (Or.inr (slot_ne (C := "com/example/tynemouth/tynemouth/control/ArrivalWindow") (Or.inl (hw _ (List.mem_of_getElem? (i := 23) rfl))) (Or.inl (hw _ (List.mem_of_getElem? (i := 14) rfl))) (by decide) (t := .int) (t' := (.array .boolean)) (by decide) (by decide)))
  have f38 := Fld.other W33 f29 (Or.inr (slot_ne (C := "com/example/tynemouth/tynemouth/control/ArrivalWindow") (Or.inl (hw _ (List.mem_of_getElem? (i := 21) rfl))) (Or.inl (hw _ (List.mem_of_getElem? (i := 14) rfl))) (by decide) (t := .int) (t' := (.array .boolean)) (by decide) (by decide)))
  have f39 := Fld.other W33 f30 (Or.inr (slot_ne (C := "com/example/tynemouth/tynemouth/control/ArrivalWindow") (Or.inl (hw _ (List.mem_of_getElem? (i := 40) rfl))) (Or.inl (hw _ (List.mem_of_getElem? (i := 14) rfl))) (by decide) (t := .long) (t' := (.array .boolean)) (by decide) (by decide)))
  have f40 := OwnA.other f31 W33 ne2_3.symm
  have f41 := OwnA.other F32 W33 ne21_22.symm
  have K42 := Keep.wr K24 W33 (Or.inl (List.mem_of_getElem? (i := 0) rfl))
  show OwnWp p e below s _ _ _ (T33.setTop (mkF m 20 #[.val (.ref a1)] []))
  refine OwnWp.retV X33 hx hlk Bd.returns (hb hby d1_20) (by decide) (by decide) ?_
  rw [e33]
  exact ⟨rfl, N33, K42, ad2, ad21, b2, b21, ne2_3, ne21_22, ne21_23, f35, f36, f37, f38, f39, f40, f41⟩
theorem d7_0 : decode prog_21_method_8_code 0 = .ok (.aload_n 0, 1) := by decide +kernel
theorem d7_1 : decode prog_21_method_8_code 1 = .ok (.getfield 13, 3) := by decide +kernel
theorem d7_4 : decode prog_21_method_8_code 4 = .ok (.aload_n 0, 1) := by decide +kernel
theorem d7_5 : decode prog_21_method_8_code 5 = .ok (.getfield 27, 3) := by decide +kernel
theorem d7_8 : decode prog_21_method_8_code 8 = .ok (.baload, 1) := by decide +kernel
theorem d7_9 : decode prog_21_method_8_code 9 = .ok (.ifCond .eq 13, 3) := by decide +kernel
theorem d7_12 : decode prog_21_method_8_code 12 = .ok (.aload_n 0, 1) := by decide +kernel
theorem d7_13 : decode prog_21_method_8_code 13 = .ok (.dup, 1) := by decide +kernel
theorem d7_14 : decode prog_21_method_8_code 14 = .ok (.getfield 30, 3) := by decide +kernel
theorem d7_17 : decode prog_21_method_8_code 17 = .ok (.lconst 1, 1) := by decide +kernel
theorem d7_18 : decode prog_21_method_8_code 18 = .ok (.lsub, 1) := by decide +kernel
theorem d7_19 : decode prog_21_method_8_code 19 = .ok (.putfield 30, 3) := by decide +kernel
theorem d7_22 : decode prog_21_method_8_code 22 = .ok (.aload_n 0, 1) := by decide +kernel
theorem d7_23 : decode prog_21_method_8_code 23 = .ok (.aload_n 0, 1) := by decide +kernel
theorem d7_24 : decode prog_21_method_8_code 24 = .ok (.getfield 27, 3) := by decide +kernel
theorem d7_27 : decode prog_21_method_8_code 27 = .ok (.iconst 1, 1) := by decide +kernel
theorem d7_28 : decode prog_21_method_8_code 28 = .ok (.iadd, 1) := by decide +kernel
theorem d7_29 : decode prog_21_method_8_code 29 = .ok (.aload_n 0, 1) := by decide +kernel
theorem d7_30 : decode prog_21_method_8_code 30 = .ok (.getfield 7, 3) := by decide +kernel
theorem d7_33 : decode prog_21_method_8_code 33 = .ok (.arraylength, 1) := by decide +kernel
theorem d7_34 : decode prog_21_method_8_code 34 = .ok (.irem, 1) := by decide +kernel
theorem d7_35 : decode prog_21_method_8_code 35 = .ok (.putfield 27, 3) := by decide +kernel
theorem d7_38 : decode prog_21_method_8_code 38 = .ok (.aload_n 0, 1) := by decide +kernel
theorem d7_39 : decode prog_21_method_8_code 39 = .ok (.dup, 1) := by decide +kernel
theorem d7_40 : decode prog_21_method_8_code 40 = .ok (.getfield 17, 3) := by decide +kernel
theorem d7_43 : decode prog_21_method_8_code 43 = .ok (.iconst 1, 1) := by decide +kernel
theorem d7_44 : decode prog_21_method_8_code 44 = .ok (.isub, 1) := by decide +kernel
theorem d7_45 : decode prog_21_method_8_code 45 = .ok (.putfield 17, 3) := by decide +kernel
theorem d7_48 : decode prog_21_method_8_code 48 = .ok (.return_, 1) := by decide +kernel
theorem pn_7 : plainFor (⟨"com/example/tynemouth/tynemouth/control/ArrivalWindow", "dropOldest", "()V"⟩ : MethodName) = true := plainFor_of_name (by first | (simp [plainName, overriddenIn]; done) | decide +kernel)
theorem pd_7 : parseMethodDescriptor "()V" = some ⟨[], none⟩ := by decide +kernel
theorem ef_7 (m : MethodId) (x0 : Addr) : entryFrame m #[(.ref x0)] 1 = mkF m 0 #[.val (.ref x0)] [] := by first | (simp [entryFrame, mkF, argsToLocals, Value.category, maxLocals]; done) | rfl
def Q7 (Z : State) (a1 : Addr) (b1 : Addr) (b2 : Addr) (f : Int → Int64) (g : Int → Int32) (o : Int32) (s0 : Int32) (d : Int64) (h0 : Heap) (n0 : Nat) (v : Option Value) (h : Heap) (L : List Loc) : Prop := v = none ∧ Fr n0 L ∧ Keep h0 h [a1] ∧ Fld Z h a1 "com/example/tynemouth/tynemouth/control/ArrivalWindow" "instants" "[J" (.ref b1) ∧ Fld Z h a1 "com/example/tynemouth/tynemouth/control/ArrivalWindow" "admitted" "[Z" (.ref b2) ∧ Fld Z h a1 "com/example/tynemouth/tynemouth/control/ArrivalWindow" "oldest" "I" (.int ((o + (1 : Int32)) % (16 : Int32))) ∧ Fld Z h a1 "com/example/tynemouth/tynemouth/control/ArrivalWindow" "size" "I" (.int (s0 - (1 : Int32))) ∧ Fld Z h a1 "com/example/tynemouth/tynemouth/control/ArrivalWindow" "admittedHeld" "J" (.long (if g o.toInt = 0 then d else d - (1 : Int64)))
set_option maxRecDepth 65536 in
set_option maxHeartbeats 40000000 in
theorem rm7 (l : Launch) (Z : State) (a0 : Array Value) (hw : ∀ d ∈ tables_1, d.before a0 Z = true) (ws : List Jvm.Cond) (a1 : Addr) (b1 : Addr) (b2 : Addr) (f : Int → Int64) (g : Int → Int32) (o : Int32) (s0 : Int32) (d : Int64) (h0 : Heap) (n0 : Nat) (Z0 : n0 ≤ h0.size) (g0 : n0 ≤ a1) (g1 : n0 ≤ b1) (g2 : n0 ≤ b2) (ne1 : a1 ≠ b1) (ne2 : a1 ≠ b2) (ne3 : b1 ≠ b2) (E0 : Exa Z h0 a1 "com/example/tynemouth/tynemouth/control/ArrivalWindow") (Fins : Fld Z h0 a1 "com/example/tynemouth/tynemouth/control/ArrivalWindow" "instants" "[J" (.ref b1)) (Fadm : Fld Z h0 a1 "com/example/tynemouth/tynemouth/control/ArrivalWindow" "admitted" "[Z" (.ref b2)) (Fold : Fld Z h0 a1 "com/example/tynemouth/tynemouth/control/ArrivalWindow" "oldest" "I" (.int o)) (Fsiz : Fld Z h0 a1 "com/example/tynemouth/tynemouth/control/ArrivalWindow" "size" "I" (.int s0)) (FadmH : Fld Z h0 a1 "com/example/tynemouth/tynemouth/control/ArrivalWindow" "admittedHeld" "J" (.long d)) (A1 : OwnA Z h0 b1 .long (16 : Int32) (fun i => .long (f i))) (A2 : OwnA Z h0 b2 .boolean (16 : Int32) (fun i => .int (g i))) (ho : 0 ≤ o.toInt ∧ o.toInt < 16) (hs : 0 ≤ s0.toInt ∧ s0.toInt ≤ 15)  :
    MetFree l (⟨"com/example/tynemouth/tynemouth/control/ArrivalWindow", "dropOldest", "()V"⟩ : MethodName) (head1 (Jvm.Cond.code (⟨"com/example/tynemouth/tynemouth/control/ArrivalWindow", "dropOldest", "()V"⟩ : MethodName) prog_21_method_8_code 1 none :: ws) ({ frames := 0, cells := 0, slots := 0, locals := 0 } : Room)) (fun a U => a = #[(.ref a1)] ∧ Z.Warmed39 U.vm ∧ U.heap = h0) (fun _ _ _ _ _ => True) (fun _ U oc U' => ∃ v L, oc = .returned v ∧ Q7 Z a1 b1 b2 f g o s0 d h0 n0 v U'.heap L ∧ FrameEnd U oc U' L ({ frames := 0, cells := 0, slots := 0, locals := 0 } : Room).cells ({ frames := 0, cells := 0, slots := 0, locals := 0 } : Room).slots) := by
  refine MetFree.of_bodySF pn_7 hisR ?_
  intro p e s m args below meth c s₁ Bd hml0 hP hK
  obtain ⟨rfl, hZ, hh⟩ := hP
  have hx := Bd.exec
  have hby := Bd.bytes
  have hlk := BodyLoose.notSynchronized Bd
  have hml : c.maxLocals = 1 := hml0
  have hown : s.vm.findClass "com/example/tynemouth/tynemouth/control/ArrivalWindow" = some m.cls := findClass_of_methodNamed Bd.named
  have hnm := (name_of_methodNamed Bd.named Bd.method).1
  have X0 : Stand p l e ({ frames := 0, cells := 0, slots := 0, locals := 0 } : Room) s m #[(.ref a1)] below meth c s₁ [] 0 0 := Stand.of_body Bd
  have e0 : s₁.heap = h0 := by rw [← hh, Bd.state]; rfl
  have N0 := Fr.nil n0
  show OwnWp p e below s ({ frames := 0, cells := 0, slots := 0, locals := 0 } : Room).cells ({ frames := 0, cells := 0, slots := 0, locals := 0 } : Room).slots (Q7 Z a1 b1 b2 f g o s0 d h0 n0) (s₁.setTop (entryFrame m #[(.ref a1)] 1))
  refine OwnWp.cast (ef_7 m a1) ?_
  show OwnWp p e below s _ _ _ (s₁.setTop (mkF m 0 #[.val (.ref a1)] []))
  have K0 := Keep.refl h0 [a1]
  refine OwnWp.step (U' := s₁.setTop (mkF m 1 #[.val (.ref a1)] [(.ref a1)])) (fun t k => ?_) ?_
  · show Steps p.tables e below (s₁.setTop (mkF m 0 #[.val (.ref a1)] [])) _
    refine XS.aloadN X0.here hx rfl (hb hby d7_0) rfl rfl ?_
    show Steps p.tables e below (s₁.setTop (mkF m 1 #[.val (.ref a1)] [(.ref a1)])) _
    exact k
  obtain ⟨T43, X43, e43, st43⟩ := getF X0 hx hZ hown (host := "") (Or.inl (hw _ (List.mem_of_getElem? (i := 13) rfl))) Via.refl e0 Fadm (g := (mkF m 1 #[.val (.ref a1)] [(.ref a1)])) rfl rfl (hb hby d7_1)
  refine OwnWp.step st43 ?_
  show OwnWp p e below s _ _ _ (T43.setTop (mkF m 4 #[.val (.ref a1)] [(.ref b2)]))
  refine OwnWp.step (U' := T43.setTop (mkF m 5 #[.val (.ref a1)] [(.ref a1), (.ref b2)])) (fun t k => ?_) ?_
  · show Steps p.tables e below (T43.setTop (mkF m 4 #[.val (.ref a1)] [(.ref b2)])) _
    refine XS.aloadN X43.here hx rfl (hb hby d7_4) rfl rfl ?_
    show Steps p.tables e below (T43.setTop (mkF m 5 #[.val (.ref a1)] [(.ref a1), (.ref b2)])) _
    exact k
  obtain ⟨T44, X44, e44, st44⟩ := getF X43 hx hZ hown (host := "") (Or.inl (hw _ (List.mem_of_getElem? (i := 22) rfl))) Via.refl e43 Fold (g := (mkF m 5 #[.val (.ref a1)] [(.ref a1), (.ref b2)])) rfl rfl (hb hby d7_5)
  refine OwnWp.step st44 ?_
  show OwnWp p e below s _ _ _ (T44.setTop (mkF m 8 #[.val (.ref a1)] [(.int o), (.ref b2)]))
  refine OwnWp.step (U' := T44.setTop (mkF m 9 #[.val (.ref a1)] [(.int (g o.toInt))])) (fun t k => ?_) ?_
  · show Steps p.tables e below (T44.setTop (mkF m 8 #[.val (.ref a1)] [(.int o), (.ref b2)])) _
    refine OwnA.ldZ X44 hx hZ e44 A2 ho.1 (by rw [show (16 : Int32).toInt = 16 from rfl]; exact ho.2) rfl rfl (hb hby d7_8) ?_
    show Steps p.tables e below (T44.setTop (mkF m 9 #[.val (.ref a1)] [(.int (g o.toInt))])) _
    exact k
  by_cases c9_45 : (g o.toInt) = (0 : Int32)
  · refine OwnWp.step (U' := T44.setTop (mkF m 22 #[.val (.ref a1)] [])) (fun t k => ?_) ?_
    · show Steps p.tables e below (T44.setTop (mkF m 9 #[.val (.ref a1)] [(.int (g o.toInt))])) _
      refine XS.ifYes X44.here hx rfl (pc0 := 9) (pc' := 22) rfl (hb hby d7_9) rfl (XT.i0_eq_t c9_45) (by decide) (by decide) ?_
      exact k
    refine OwnWp.step (U' := T44.setTop (mkF m 24 #[.val (.ref a1)] [(.ref a1), (.ref a1)])) (fun t k => ?_) ?_
    · show Steps p.tables e below (T44.setTop (mkF m 22 #[.val (.ref a1)] [])) _
      refine XS.aloadN X44.here hx rfl (hb hby d7_22) rfl rfl ?_
      show Steps p.tables e below (T44.setTop (mkF m 23 #[.val (.ref a1)] [(.ref a1)])) _
      refine XS.aloadN X44.here hx rfl (hb hby d7_23) rfl rfl ?_
      show Steps p.tables e below (T44.setTop (mkF m 24 #[.val (.ref a1)] [(.ref a1), (.ref a1)])) _
      exact k
    obtain ⟨T46, X46, e46, st46⟩ := getF X44 hx hZ hown (host := "") (Or.inl (hw _ (List.mem_of_getElem? (i := 22) rfl))) Via.refl e44 Fold (g := (mkF m 24 #[.val (.ref a1)] [(.ref a1), (.ref a1)])) rfl rfl (hb hby d7_24)
    refine OwnWp.step st46 ?_
    show OwnWp p e below s _ _ _ (T46.setTop (mkF m 27 #[.val (.ref a1)] [(.int o), (.ref a1)]))
    refine OwnWp.step (U' := T46.setTop (mkF m 30 #[.val (.ref a1)] [(.ref a1), (.int (o + (1 : Int32))), (.ref a1)])) (fun t k => ?_) ?_
    · show Steps p.tables e below (T46.setTop (mkF m 27 #[.val (.ref a1)] [(.int o), (.ref a1)])) _
      refine XT.iconstV X46.here hx rfl (1 : Int32) (hb hby d7_27) rfl ?_
      show Steps p.tables e below (T46.setTop (mkF m 28 #[.val (.ref a1)] [(.int (1 : Int32)), (.int o), (.ref a1)])) _
      refine XS.iadd X46.here hx rfl (hb hby d7_28) rfl ?_
      show Steps p.tables e below (T46.setTop (mkF m 29 #[.val (.ref a1)] [(.int (o + (1 : Int32))), (.ref a1)])) _
      refine XS.aloadN X46.here hx rfl (hb hby d7_29) rfl rfl ?_
      show Steps p.tables e below (T46.setTop (mkF m 30 #[.val (.ref a1)] [(.ref a1), (.int (o + (1 : Int32))), (.ref a1)])) _
      exact k
    obtain ⟨T47, X47, e47, st47⟩ := getF X46 hx hZ hown (host := "") (Or.inl (hw _ (List.mem_of_getElem? (i := 10) rfl))) Via.refl e46 Fins (g := (mkF m 30 #[.val (.ref a1)] [(.ref a1), (.int (o + (1 : Int32))), (.ref a1)])) rfl rfl (hb hby d7_30)
    refine OwnWp.step st47 ?_
    show OwnWp p e below s _ _ _ (T47.setTop (mkF m 33 #[.val (.ref a1)] [(.ref b1), (.int (o + (1 : Int32))), (.ref a1)]))
    refine OwnWp.step (U' := T47.setTop (mkF m 35 #[.val (.ref a1)] [(.int ((o + (1 : Int32)) % (16 : Int32))), (.ref a1)])) (fun t k => ?_) ?_
    · show Steps p.tables e below (T47.setTop (mkF m 33 #[.val (.ref a1)] [(.ref b1), (.int (o + (1 : Int32))), (.ref a1)])) _
      refine OwnA.alen X47 hx hZ e47 A1 rfl rfl (hb hby d7_33) ?_
      show Steps p.tables e below (T47.setTop (mkF m 34 #[.val (.ref a1)] [(.int (16 : Int32)), (.int (o + (1 : Int32))), (.ref a1)])) _
      refine iremM X47 hx rfl (hb hby d7_34) rfl (by decide) ?_
      show Steps p.tables e below (T47.setTop (mkF m 35 #[.val (.ref a1)] [(.int ((o + (1 : Int32)) % (16 : Int32))), (.ref a1)])) _
      exact k
    obtain ⟨T48, h48, X48, e48, W48, st48⟩ := putF X47 hx hZ hown (host := "") (Or.inl (hw _ (List.mem_of_getElem? (i := 22) rfl))) Via.refl e47 Fold E0 (Or.inl (hw _ (List.mem_of_getElem? (i := 23) rfl))) (hw _ (List.mem_of_getElem? (i := 1) rfl)) (ty := .int) (by decide) rfl rfl (g := (mkF m 35 #[.val (.ref a1)] [(.int ((o + (1 : Int32)) % (16 : Int32))), (.ref a1)])) rfl rfl (hb hby d7_35)
    have N48 := own_frs (sl := Jvm.RoadKit.slotOf Z "com/example/tynemouth/tynemouth/control/ArrivalWindow" "oldest" "I") N0 g0
    have Z48 : n0 ≤ h48.size := by rw [W48.size]; exact Z0
    refine OwnWp.step st48 ?_
    have f49 := Exa.wr W48 E0
    have f50 := Fld.other W48 Fins (Or.inr (slot_ne (C := "com/example/tynemouth/tynemouth/control/ArrivalWindow") (Or.inl (hw _ (List.mem_of_getElem? (i := 11) rfl))) (Or.inl (hw _ (List.mem_of_getElem? (i := 23) rfl))) (by decide) (t := (.array .long)) (t' := .int) (by decide) (by decide)))
    have f51 := Fld.other W48 Fadm (Or.inr (slot_ne (C := "com/example/tynemouth/tynemouth/control/ArrivalWindow") (Or.inl (hw _ (List.mem_of_getElem? (i := 14) rfl))) (Or.inl (hw _ (List.mem_of_getElem? (i := 23) rfl))) (by decide) (t := (.array .boolean)) (t' := .int) (by decide) (by decide)))
    have f52 := Fld.same W48 Fold
    have f53 := Fld.other W48 Fsiz (Or.inr (slot_ne (C := "com/example/tynemouth/tynemouth/control/ArrivalWindow") (Or.inl (hw _ (List.mem_of_getElem? (i := 21) rfl))) (Or.inl (hw _ (List.mem_of_getElem? (i := 23) rfl))) (by decide) (t := .int) (t' := .int) (by decide) (by decide)))
    have f54 := Fld.other W48 FadmH (Or.inr (slot_ne (C := "com/example/tynemouth/tynemouth/control/ArrivalWindow") (Or.inl (hw _ (List.mem_of_getElem? (i := 40) rfl))) (Or.inl (hw _ (List.mem_of_getElem? (i := 23) rfl))) (by decide) (t := .long) (t' := .int) (by decide) (by decide)))
    have f55 := OwnA.other A1 W48 ne1.symm
    have f56 := OwnA.other A2 W48 ne2.symm
    have K57 := Keep.wr K0 W48 (Or.inl (List.mem_of_getElem? (i := 0) rfl))
    show OwnWp p e below s _ _ _ (T48.setTop (mkF m 38 #[.val (.ref a1)] []))
    refine OwnWp.step (U' := T48.setTop (mkF m 40 #[.val (.ref a1)] [(.ref a1), (.ref a1)])) (fun t k => ?_) ?_
    · show Steps p.tables e below (T48.setTop (mkF m 38 #[.val (.ref a1)] [])) _
      refine XS.aloadN X48.here hx rfl (hb hby d7_38) rfl rfl ?_
      show Steps p.tables e below (T48.setTop (mkF m 39 #[.val (.ref a1)] [(.ref a1)])) _
      refine XS.dup X48.here hx rfl (hb hby d7_39) rfl rfl ?_
      show Steps p.tables e below (T48.setTop (mkF m 40 #[.val (.ref a1)] [(.ref a1), (.ref a1)])) _
      exact k
    obtain ⟨T58, X58, e58, st58⟩ := getF X48 hx hZ hown (host := "") (Or.inl (hw _ (List.mem_of_getElem? (i := 20) rfl))) Via.refl e48 f53 (g := (mkF m 40 #[.val (.ref a1)] [(.ref a1), (.ref a1)])) rfl rfl (hb hby d7_40)
    refine OwnWp.step st58 ?_
    show OwnWp p e below s _ _ _ (T58.setTop (mkF m 43 #[.val (.ref a1)] [(.int s0), (.ref a1)]))
    refine OwnWp.step (U' := T58.setTop (mkF m 45 #[.val (.ref a1)] [(.int (s0 - (1 : Int32))), (.ref a1)])) (fun t k => ?_) ?_
    · show Steps p.tables e below (T58.setTop (mkF m 43 #[.val (.ref a1)] [(.int s0), (.ref a1)])) _
      refine XT.iconstV X58.here hx rfl (1 : Int32) (hb hby d7_43) rfl ?_
      show Steps p.tables e below (T58.setTop (mkF m 44 #[.val (.ref a1)] [(.int (1 : Int32)), (.int s0), (.ref a1)])) _
      refine XS.isub X58.here hx rfl (hb hby d7_44) rfl ?_
      show Steps p.tables e below (T58.setTop (mkF m 45 #[.val (.ref a1)] [(.int (s0 - (1 : Int32))), (.ref a1)])) _
      exact k
    obtain ⟨T59, h59, X59, e59, W59, st59⟩ := putF X58 hx hZ hown (host := "") (Or.inl (hw _ (List.mem_of_getElem? (i := 20) rfl))) Via.refl e58 f53 f49 (Or.inl (hw _ (List.mem_of_getElem? (i := 21) rfl))) (hw _ (List.mem_of_getElem? (i := 1) rfl)) (ty := .int) (by decide) rfl rfl (g := (mkF m 45 #[.val (.ref a1)] [(.int (s0 - (1 : Int32))), (.ref a1)])) rfl rfl (hb hby d7_45)
    have N59 := own_frs (sl := Jvm.RoadKit.slotOf Z "com/example/tynemouth/tynemouth/control/ArrivalWindow" "size" "I") N48 g0
    have Z59 : n0 ≤ h59.size := by rw [W59.size]; exact Z48
    refine OwnWp.step st59 ?_
    have f60 := Exa.wr W59 f49
    have f61 := Fld.other W59 f50 (Or.inr (slot_ne (C := "com/example/tynemouth/tynemouth/control/ArrivalWindow") (Or.inl (hw _ (List.mem_of_getElem? (i := 11) rfl))) (Or.inl (hw _ (List.mem_of_getElem? (i := 21) rfl))) (by decide) (t := (.array .long)) (t' := .int) (by decide) (by decide)))
    have f62 := Fld.other W59 f51 (Or.inr (slot_ne (C := "com/example/tynemouth/tynemouth/control/ArrivalWindow") (Or.inl (hw _ (List.mem_of_getElem? (i := 14) rfl))) (Or.inl (hw _ (List.mem_of_getElem? (i := 21) rfl))) (by decide) (t := (.array .boolean)) (t' := .int) (by decide) (by decide)))
    have f63 := Fld.other W59 f52 (Or.inr (slot_ne (C := "com/example/tynemouth/tynemouth/control/ArrivalWindow") (Or.inl (hw _ (List.mem_of_getElem? (i := 23) rfl))) (Or.inl (hw _ (List.mem_of_getElem? (i := 21) rfl))) (by decide) (t := .int) (t' := .int) (by decide) (by decide)))
    have f64 := Fld.same W59 f53
    have f65 := Fld.other W59 f54 (Or.inr (slot_ne (C := "com/example/tynemouth/tynemouth/control/ArrivalWindow") (Or.inl (hw _ (List.mem_of_getElem? (i := 40) rfl))) (Or.inl (hw _ (List.mem_of_getElem? (i := 21) rfl))) (by decide) (t := .long) (t' := .int) (by decide) (by decide)))
    have f66 := OwnA.other f55 W59 ne1.symm
    have f67 := OwnA.other f56 W59 ne2.symm
    have K68 := Keep.wr K57 W59 (Or.inl (List.mem_of_getElem? (i := 0) rfl))
    show OwnWp p e below s _ _ _ (T59.setTop (mkF m 48 #[.val (.ref a1)] []))
    refine OwnWp.retV X59 hx hlk Bd.returns (hb hby d7_48) (by decide) (by decide) ?_
    rw [e59]
    refine ⟨rfl, N59, K68, f61, f62, f63, f64, ?_⟩
    rw [if_pos c9_45]; exact f65
  · refine OwnWp.step (U' := T44.setTop (mkF m 12 #[.val (.ref a1)] [])) (fun t k => ?_) ?_
    · show Steps p.tables e below (T44.setTop (mkF m 9 #[.val (.ref a1)] [(.int (g o.toInt))])) _
      refine XS.ifNo X44.here hx rfl (hb hby d7_9) rfl (XT.i0_eq_f c9_45) ?_
      exact k
    refine OwnWp.step (U' := T44.setTop (mkF m 14 #[.val (.ref a1)] [(.ref a1), (.ref a1)])) (fun t k => ?_) ?_
    · show Steps p.tables e below (T44.setTop (mkF m 12 #[.val (.ref a1)] [])) _
      refine XS.aloadN X44.here hx rfl (hb hby d7_12) rfl rfl ?_
      show Steps p.tables e below (T44.setTop (mkF m 13 #[.val (.ref a1)] [(.ref a1)])) _
      refine XS.dup X44.here hx rfl (hb hby d7_13) rfl rfl ?_
      show Steps p.tables e below (T44.setTop (mkF m 14 #[.val (.ref a1)] [(.ref a1), (.ref a1)])) _
      exact k
    obtain ⟨T69, X69, e69, st69⟩ := getF X44 hx hZ hown (host := "") (Or.inl (hw _ (List.mem_of_getElem? (i := 39) rfl))) Via.refl e44 FadmH (g := (mkF m 14 #[.val (.ref a1)] [(.ref a1), (.ref a1)])) rfl rfl (hb hby d7_14)
    refine OwnWp.step st69 ?_
    show OwnWp p e below s _ _ _ (T69.setTop (mkF m 17 #[.val (.ref a1)] [(.long d), (.ref a1)]))
    refine OwnWp.step (U' := T69.setTop (mkF m 19 #[.val (.ref a1)] [(.long (d - (1 : Int64))), (.ref a1)])) (fun t k => ?_) ?_
    · show Steps p.tables e below (T69.setTop (mkF m 17 #[.val (.ref a1)] [(.long d), (.ref a1)])) _
      refine XT.lconstV X69.here hx rfl (1 : Int64) (hb hby d7_17) rfl ?_
      show Steps p.tables e below (T69.setTop (mkF m 18 #[.val (.ref a1)] [(.long (1 : Int64)), (.long d), (.ref a1)])) _
      refine XT.lsub X69.here hx rfl (hb hby d7_18) rfl ?_
      show Steps p.tables e below (T69.setTop (mkF m 19 #[.val (.ref a1)] [(.long (d - (1 : Int64))), (.ref a1)])) _
      exact k
    obtain ⟨T70, h70, X70, e70, W70, st70⟩ := putF X69 hx hZ hown (host := "") (Or.inl (hw _ (List.mem_of_getElem? (i := 39) rfl))) Via.refl e69 FadmH E0 (Or.inl (hw _ (List.mem_of_getElem? (i := 40) rfl))) (hw _ (List.mem_of_getElem? (i := 1) rfl)) (ty := .long) (by decide) rfl rfl (g := (mkF m 19 #[.val (.ref a1)] [(.long (d - (1 : Int64))), (.ref a1)])) rfl rfl (hb hby d7_19)
    have N70 := own_frs (sl := Jvm.RoadKit.slotOf Z "com/example/tynemouth/tynemouth/control/ArrivalWindow" "admittedHeld" "J") N0 g0
    have Z70 : n0 ≤ h70.size := by rw [W70.size]; exact Z0
    refine OwnWp.step st70 ?_
    have f71 := Exa.wr W70 E0
    have f72 := Fld.other W70 Fins (Or.inr (slot_ne (C := "com/example/tynemouth/tynemouth/control/ArrivalWindow") (Or.inl (hw _ (List.mem_of_getElem? (i := 11) rfl))) (Or.inl (hw _ (List.mem_of_getElem? (i := 40) rfl))) (by decide) (t := (.array .long)) (t' := .long) (by decide) (by decide)))
    have f73 := Fld.other W70 Fadm (Or.inr (slot_ne (C := "com/example/tynemouth/tynemouth/control/ArrivalWindow") (Or.inl (hw _ (List.mem_of_getElem? (i := 14) rfl))) (Or.inl (hw _ (List.mem_of_getElem? (i := 40) rfl))) (by decide) (t := (.array .boolean)) (t' := .long) (by decide) (by decide)))
    have f74 := Fld.other W70 Fold (Or.inr (slot_ne (C := "com/example/tynemouth/tynemouth/control/ArrivalWindow") (Or.inl (hw _ (List.mem_of_getElem? (i := 23) rfl))) (Or.inl (hw _ (List.mem_of_getElem? (i := 40) rfl))) (by decide) (t := .int) (t' := .long) (by decide) (by decide)))
    have f75 := Fld.other W70 Fsiz (Or.inr (slot_ne (C := "com/example/tynemouth/tynemouth/control/ArrivalWindow") (Or.inl (hw _ (List.mem_of_getElem? (i := 21) rfl))) (Or.inl (hw _ (List.mem_of_getElem? (i := 40) rfl))) (by decide) (t := .int) (t' := .long) (by decide) (by decide)))
    have f76 := Fld.same W70 FadmH
    have f77 := OwnA.other A1 W70 ne1.symm
    have f78 := OwnA.other A2 W70 ne2.symm
    have K79 := Keep.wr K0 W70 (Or.inl (List.mem_of_getElem? (i := 0) rfl))
    show OwnWp p e below s _ _ _ (T70.setTop (mkF m 22 #[.val (.ref a1)] []))
    refine OwnWp.step (U' := T70.setTop (mkF m 24 #[.val (.ref a1)] [(.ref a1), (.ref a1)])) (fun t k => ?_) ?_
    · show Steps p.tables e below (T70.setTop (mkF m 22 #[.val (.ref a1)] [])) _
      refine XS.aloadN X70.here hx rfl (hb hby d7_22) rfl rfl ?_
      show Steps p.tables e below (T70.setTop (mkF m 23 #[.val (.ref a1)] [(.ref a1)])) _
      refine XS.aloadN X70.here hx rfl (hb hby d7_23) rfl rfl ?_
      show Steps p.tables e below (T70.setTop (mkF m 24 #[.val (.ref a1)] [(.ref a1), (.ref a1)])) _
      exact k
    obtain ⟨T80, X80, e80, st80⟩ := getF X70 hx hZ hown (host := "") (Or.inl (hw _ (List.mem_of_getElem? (i := 22) rfl))) Via.refl e70 f74 (g := (mkF m 24 #[.val (.ref a1)] [(.ref a1), (.ref a1)])) rfl rfl (hb hby d7_24)
    refine OwnWp.step st80 ?_
    show OwnWp p e below s _ _ _ (T80.setTop (mkF m 27 #[.val (.ref a1)] [(.int o), (.ref a1)]))
    refine OwnWp.step (U' := T80.setTop (mkF m 30 #[.val (.ref a1)] [(.ref a1), (.int (o + (1 : Int32))), (.ref a1)])) (fun t k => ?_) ?_
    · show Steps p.tables e below (T80.setTop (mkF m 27 #[.val (.ref a1)] [(.int o), (.ref a1)])) _
      refine XT.iconstV X80.here hx rfl (1 : Int32) (hb hby d7_27) rfl ?_
      show Steps p.tables e below (T80.setTop (mkF m 28 #[.val (.ref a1)] [(.int (1 : Int32)), (.int o), (.ref a1)])) _
      refine XS.iadd X80.here hx rfl (hb hby d7_28) rfl ?_
      show Steps p.tables e below (T80.setTop (mkF m 29 #[.val (.ref a1)] [(.int (o + (1 : Int32))), (.ref a1)])) _
      refine XS.aloadN X80.here hx rfl (hb hby d7_29) rfl rfl ?_
      show Steps p.tables e below (T80.setTop (mkF m 30 #[.val (.ref a1)] [(.ref a1), (.int (o + (1 : Int32))), (.ref a1)])) _
      exact k
    obtain ⟨T81, X81, e81, st81⟩ := getF X80 hx hZ hown (host := "") (Or.inl (hw _ (List.mem_of_getElem? (i := 10) rfl))) Via.refl e80 f72 (g := (mkF m 30 #[.val (.ref a1)] [(.ref a1), (.int (o + (1 : Int32))), (.ref a1)])) rfl rfl (hb hby d7_30)
    refine OwnWp.step st81 ?_
    show OwnWp p e below s _ _ _ (T81.setTop (mkF m 33 #[.val (.ref a1)] [(.ref b1), (.int (o + (1 : Int32))), (.ref a1)]))
    refine OwnWp.step (U' := T81.setTop (mkF m 35 #[.val (.ref a1)] [(.int ((o + (1 : Int32)) % (16 : Int32))), (.ref a1)])) (fun t k => ?_) ?_
    · show Steps p.tables e below (T81.setTop (mkF m 33 #[.val (.ref a1)] [(.ref b1), (.int (o + (1 : Int32))), (.ref a1)])) _
      refine OwnA.alen X81 hx hZ e81 f77 rfl rfl (hb hby d7_33) ?_
      show Steps p.tables e below (T81.setTop (mkF m 34 #[.val (.ref a1)] [(.int (16 : Int32)), (.int (o + (1 : Int32))), (.ref a1)])) _
      refine iremM X81 hx rfl (hb hby d7_34) rfl (by decide) ?_
      show Steps p.tables e below (T81.setTop (mkF m 35 #[.val (.ref a1)] [(.int ((o + (1 : Int32)) % (16 : Int32))), (.ref a1)])) _
      exact k
    obtain ⟨T82, h82, X82, e82, W82, st82⟩ := putF X81 hx hZ hown (host := "") (Or.inl (hw _ (List.mem_of_getElem? (i := 22) rfl))) Via.refl e81 f74 f71 (Or.inl (hw _ (List.mem_of_getElem? (i := 23) rfl))) (hw _ (List.mem_of_getElem? (i := 1) rfl)) (ty := .int) (by decide) rfl rfl (g := (mkF m 35 #[.val (.ref a1)] [(.int ((o + (1 : Int32)) % (16 : Int32))), (.ref a1)])) rfl rfl (hb hby d7_35)
    have N82 := own_frs (sl := Jvm.RoadKit.slotOf Z "com/example/tynemouth/tynemouth/control/ArrivalWindow" "oldest" "I") N70 g0
    have Z82 : n0 ≤ h82.size := by rw [W82.size]; exact Z70
    refine OwnWp.step st82 ?_
    have f83 := Exa.wr W82 f71
    have f84 := Fld.other W82 f72 (Or.inr (slot_ne (C := "com/example/tynemouth/tynemouth/control/ArrivalWindow") (Or.inl (hw _ (List.mem_of_getElem? (i := 11) rfl))) (Or.inl (hw _ (List.mem_of_getElem? (i := 23) rfl))) (by decide) (t := (.array .long)) (t' := .int) (by decide) (by decide)))
    have f85 := Fld.other W82 f73 (Or.inr (slot_ne (C := "com/example/tynemouth/tynemouth/control/ArrivalWindow") (Or.inl (hw _ (List.mem_of_getElem? (i := 14) rfl))) (Or.inl (hw _ (List.mem_of_getElem? (i := 23) rfl))) (by decide) (t := (.array .boolean)) (t' := .int) (by decide) (by decide)))
    have f86 := Fld.same W82 f74
    have f87 := Fld.other W82 f75 (Or.inr (slot_ne (C := "com/example/tynemouth/tynemouth/control/ArrivalWindow") (Or.inl (hw _ (List.mem_of_getElem? (i := 21) rfl))) (Or.inl (hw _ (List.mem_of_getElem? (i := 23) rfl))) (by decide) (t := .int) (t' := .int) (by decide) (by decide)))
    have f88 := Fld.other W82 f76 (Or.inr (slot_ne (C := "com/example/tynemouth/tynemouth/control/ArrivalWindow") (Or.inl (hw _ (List.mem_of_getElem? (i := 40) rfl))) (Or.inl (hw _ (List.mem_of_getElem? (i := 23) rfl))) (by decide) (t := .long) (t' := .int) (by decide) (by decide)))
    have f89 := OwnA.other f77 W82 ne1.symm
    have f90 := OwnA.other f78 W82 ne2.symm
    have K91 := Keep.wr K79 W82 (Or.inl (List.mem_of_getElem? (i := 0) rfl))
    show OwnWp p e below s _ _ _ (T82.setTop (mkF m 38 #[.val (.ref a1)] []))
    refine OwnWp.step (U' := T82.setTop (mkF m 40 #[.val (.ref a1)] [(.ref a1), (.ref a1)])) (fun t k => ?_) ?_
    · show Steps p.tables e below (T82.setTop (mkF m 38 #[.val (.ref a1)] [])) _
      refine XS.aloadN X82.here hx rfl (hb hby d7_38) rfl rfl ?_
      show Steps p.tables e below (T82.setTop (mkF m 39 #[.val (.ref a1)] [(.ref a1)])) _
      refine XS.dup X82.here hx rfl (hb hby d7_39) rfl rfl ?_
      show Steps p.tables e below (T82.setTop (mkF m 40 #[.val (.ref a1)] [(.ref a1), (.ref a1)])) _
      exact k
    obtain ⟨T92, X92, e92, st92⟩ := getF X82 hx hZ hown (host := "") (Or.inl (hw _ (List.mem_of_getElem? (i := 20) rfl))) Via.refl e82 f87 (g := (mkF m 40 #[.val (.ref a1)] [(.ref a1), (.ref a1)])) rfl rfl (hb hby d7_40)
    refine OwnWp.step st92 ?_
    show OwnWp p e below s _ _ _ (T92.setTop (mkF m 43 #[.val (.ref a1)] [(.int s0), (.ref a1)]))
    refine OwnWp.step (U' := T92.setTop (mkF m 45 #[.val (.ref a1)] [(.int (s0 - (1 : Int32))), (.ref a1)])) (fun t k => ?_) ?_
    · show Steps p.tables e below (T92.setTop (mkF m 43 #[.val (.ref a1)] [(.int s0), (.ref a1)])) _
      refine XT.iconstV X92.here hx rfl (1 : Int32) (hb hby d7_43) rfl ?_
      show Steps p.tables e below (T92.setTop (mkF m 44 #[.val (.ref a1)] [(.int (1 : Int32)), (.int s0), (.ref a1)])) _
      refine XS.isub X92.here hx rfl (hb hby d7_44) rfl ?_
      show Steps p.tables e below (T92.setTop (mkF m 45 #[.val (.ref a1)] [(.int (s0 - (1 : Int32))), (.ref a1)])) _
      exact k
    obtain ⟨T93, h93, X93, e93, W93, st93⟩ := putF X92 hx hZ hown (host := "") (Or.inl (hw _ (List.mem_of_getElem? (i := 20) rfl))) Via.refl e92 f87 f83 (Or.inl (hw _ (List.mem_of_getElem? (i := 21) rfl))) (hw _ (List.mem_of_getElem? (i := 1) rfl)) (ty := .int) (by decide) rfl rfl (g := (mkF m 45 #[.val (.ref a1)] [(.int (s0 - (1 : Int32))), (.ref a1)])) rfl rfl (hb hby d7_45)
    have N93 := own_frs (sl := Jvm.RoadKit.slotOf Z "com/example/tynemouth/tynemouth/control/ArrivalWindow" "size" "I") N82 g0
    have Z93 : n0 ≤ h93.size := by rw [W93.size]; exact Z82
    refine OwnWp.step st93 ?_
    have f94 := Exa.wr W93 f83
    have f95 := Fld.other W93 f84 (Or.inr (slot_ne (C := "com/example/tynemouth/tynemouth/control/ArrivalWindow") (Or.inl (hw _ (List.mem_of_getElem? (i := 11) rfl))) (Or.inl (hw _ (List.mem_of_getElem? (i := 21) rfl))) (by decide) (t := (.array .long)) (t' := .int) (by decide) (by decide)))
    have f96 := Fld.other W93 f85 (Or.inr (slot_ne (C := "com/example/tynemouth/tynemouth/control/ArrivalWindow") (Or.inl (hw _ (List.mem_of_getElem? (i := 14) rfl))) (Or.inl (hw _ (List.mem_of_getElem? (i := 21) rfl))) (by decide) (t := (.array .boolean)) (t' := .int) (by decide) (by decide)))
    have f97 := Fld.other W93 f86 (Or.inr (slot_ne (C := "com/example/tynemouth/tynemouth/control/ArrivalWindow") (Or.inl (hw _ (List.mem_of_getElem? (i := 23) rfl))) (Or.inl (hw _ (List.mem_of_getElem? (i := 21) rfl))) (by decide) (t := .int) (t' := .int) (by decide) (by decide)))
    have f98 := Fld.same W93 f87
    have f99 := Fld.other W93 f88 (Or.inr (slot_ne (C := "com/example/tynemouth/tynemouth/control/ArrivalWindow") (Or.inl (hw _ (List.mem_of_getElem? (i := 40) rfl))) (Or.inl (hw _ (List.mem_of_getElem? (i := 21) rfl))) (by decide) (t := .long) (t' := .int) (by decide) (by decide)))
    have f100 := OwnA.other f89 W93 ne1.symm
    have f101 := OwnA.other f90 W93 ne2.symm
    have K102 := Keep.wr K91 W93 (Or.inl (List.mem_of_getElem? (i := 0) rfl))
    show OwnWp p e below s _ _ _ (T93.setTop (mkF m 48 #[.val (.ref a1)] []))
    refine OwnWp.retV X93 hx hlk Bd.returns (hb hby d7_48) (by decide) (by decide) ?_
    rw [e93]
    refine ⟨rfl, N93, K102, f95, f96, f97, f98, ?_⟩
    rw [if_neg c9_45]; exact f99
theorem d8_0 : decode prog_21_method_3_code 0 = .ok (.aload_n 0, 1) := by decide +kernel
theorem d8_1 : decode prog_21_method_3_code 1 = .ok (.getfield 27, 3) := by decide +kernel
theorem d8_4 : decode prog_21_method_3_code 4 = .ok (.aload_n 0, 1) := by decide +kernel
theorem d8_5 : decode prog_21_method_3_code 5 = .ok (.getfield 17, 3) := by decide +kernel
theorem d8_8 : decode prog_21_method_3_code 8 = .ok (.iadd, 1) := by decide +kernel
theorem d8_9 : decode prog_21_method_3_code 9 = .ok (.iconst 1, 1) := by decide +kernel
theorem d8_10 : decode prog_21_method_3_code 10 = .ok (.isub, 1) := by decide +kernel
theorem d8_11 : decode prog_21_method_3_code 11 = .ok (.aload_n 0, 1) := by decide +kernel
theorem d8_12 : decode prog_21_method_3_code 12 = .ok (.getfield 7, 3) := by decide +kernel
theorem d8_15 : decode prog_21_method_3_code 15 = .ok (.arraylength, 1) := by decide +kernel
theorem d8_16 : decode prog_21_method_3_code 16 = .ok (.irem, 1) := by decide +kernel
theorem d8_17 : decode prog_21_method_3_code 17 = .ok (.istore_n 1, 1) := by decide +kernel
theorem d8_18 : decode prog_21_method_3_code 18 = .ok (.aload_n 0, 1) := by decide +kernel
theorem d8_19 : decode prog_21_method_3_code 19 = .ok (.getfield 13, 3) := by decide +kernel
theorem d8_22 : decode prog_21_method_3_code 22 = .ok (.iload_n 1, 1) := by decide +kernel
theorem d8_23 : decode prog_21_method_3_code 23 = .ok (.baload, 1) := by decide +kernel
theorem d8_24 : decode prog_21_method_3_code 24 = .ok (.ifCond .ne 20, 3) := by decide +kernel
theorem d8_27 : decode prog_21_method_3_code 27 = .ok (.aload_n 0, 1) := by decide +kernel
theorem d8_28 : decode prog_21_method_3_code 28 = .ok (.getfield 13, 3) := by decide +kernel
theorem d8_31 : decode prog_21_method_3_code 31 = .ok (.iload_n 1, 1) := by decide +kernel
theorem d8_32 : decode prog_21_method_3_code 32 = .ok (.iconst 1, 1) := by decide +kernel
theorem d8_33 : decode prog_21_method_3_code 33 = .ok (.bastore, 1) := by decide +kernel
theorem d8_34 : decode prog_21_method_3_code 34 = .ok (.aload_n 0, 1) := by decide +kernel
theorem d8_35 : decode prog_21_method_3_code 35 = .ok (.dup, 1) := by decide +kernel
theorem d8_36 : decode prog_21_method_3_code 36 = .ok (.getfield 30, 3) := by decide +kernel
theorem d8_39 : decode prog_21_method_3_code 39 = .ok (.lconst 1, 1) := by decide +kernel
theorem d8_40 : decode prog_21_method_3_code 40 = .ok (.ladd, 1) := by decide +kernel
theorem d8_41 : decode prog_21_method_3_code 41 = .ok (.putfield 30, 3) := by decide +kernel
theorem d8_44 : decode prog_21_method_3_code 44 = .ok (.return_, 1) := by decide +kernel
theorem pn_8 : plainFor (⟨"com/example/tynemouth/tynemouth/control/ArrivalWindow", "admitNewest", "()V"⟩ : MethodName) = true := plainFor_of_name (by first | (simp [plainName, overriddenIn]; done) | decide +kernel)
theorem pd_8 : parseMethodDescriptor "()V" = some ⟨[], none⟩ := by decide +kernel
theorem ef_8 (m : MethodId) (x0 : Addr) : entryFrame m #[(.ref x0)] 2 = mkF m 0 #[.val (.ref x0), .unset] [] := by first | (simp [entryFrame, mkF, argsToLocals, Value.category, maxLocals]; done) | rfl
def Q8 (Z : State) (a1 : Addr) (b1 : Addr) (b2 : Addr) (f : Int → Int64) (g : Int → Int32) (o : Int32) (s0 : Int32) (d : Int64) (h0 : Heap) (n0 : Nat) (v : Option Value) (h : Heap) (L : List Loc) : Prop := v = none ∧ Fr n0 L ∧ Keep h0 h [a1, b2] ∧ Fld Z h a1 "com/example/tynemouth/tynemouth/control/ArrivalWindow" "instants" "[J" (.ref b1) ∧ Fld Z h a1 "com/example/tynemouth/tynemouth/control/ArrivalWindow" "admitted" "[Z" (.ref b2) ∧ Fld Z h a1 "com/example/tynemouth/tynemouth/control/ArrivalWindow" "oldest" "I" (.int o) ∧ Fld Z h a1 "com/example/tynemouth/tynemouth/control/ArrivalWindow" "size" "I" (.int s0) ∧ Fld Z h a1 "com/example/tynemouth/tynemouth/control/ArrivalWindow" "admittedHeld" "J" (.long (own_admD g (((o + s0) - (1 : Int32)) % (16 : Int32)).toInt d)) ∧ OwnA Z h b2 .boolean (16 : Int32) (fun i => .int ((own_adm g (((o + s0) - (1 : Int32)) % (16 : Int32)).toInt) i))
set_option maxRecDepth 65536 in
set_option maxHeartbeats 40000000 in
theorem rm8 (l : Launch) (Z : State) (a0 : Array Value) (hw : ∀ d ∈ tables_1, d.before a0 Z = true) (ws : List Jvm.Cond) (a1 : Addr) (b1 : Addr) (b2 : Addr) (f : Int → Int64) (g : Int → Int32) (o : Int32) (s0 : Int32) (d : Int64) (h0 : Heap) (n0 : Nat) (Z0 : n0 ≤ h0.size) (g0 : n0 ≤ a1) (g1 : n0 ≤ b1) (g2 : n0 ≤ b2) (ne1 : a1 ≠ b1) (ne2 : a1 ≠ b2) (ne3 : b1 ≠ b2) (E0 : Exa Z h0 a1 "com/example/tynemouth/tynemouth/control/ArrivalWindow") (Fins : Fld Z h0 a1 "com/example/tynemouth/tynemouth/control/ArrivalWindow" "instants" "[J" (.ref b1)) (Fadm : Fld Z h0 a1 "com/example/tynemouth/tynemouth/control/ArrivalWindow" "admitted" "[Z" (.ref b2)) (Fold : Fld Z h0 a1 "com/example/tynemouth/tynemouth/control/ArrivalWindow" "oldest" "I" (.int o)) (Fsiz : Fld Z h0 a1 "com/example/tynemouth/tynemouth/control/ArrivalWindow" "size" "I" (.int s0)) (FadmH : Fld Z h0 a1 "com/example/tynemouth/tynemouth/control/ArrivalWindow" "admittedHeld" "J" (.long d)) (A1 : OwnA Z h0 b1 .long (16 : Int32) (fun i => .long (f i))) (A2 : OwnA Z h0 b2 .boolean (16 : Int32) (fun i => .int (g i))) (ho : 0 ≤ o.toInt ∧ o.toInt < 16) (hs : 0 ≤ s0.toInt ∧ s0.toInt ≤ 15) (hs1 : 1 ≤ s0.toInt) :
    MetFree l (⟨"com/example/tynemouth/tynemouth/control/ArrivalWindow", "admitNewest", "()V"⟩ : MethodName) (head1 (Jvm.Cond.code (⟨"com/example/tynemouth/tynemouth/control/ArrivalWindow", "admitNewest", "()V"⟩ : MethodName) prog_21_method_3_code 2 none :: ws) ({ frames := 0, cells := 0, slots := 0, locals := 0 } : Room)) (fun a U => a = #[(.ref a1)] ∧ Z.Warmed39 U.vm ∧ U.heap = h0) (fun _ _ _ _ _ => True) (fun _ U oc U' => ∃ v L, oc = .returned v ∧ Q8 Z a1 b1 b2 f g o s0 d h0 n0 v U'.heap L ∧ FrameEnd U oc U' L ({ frames := 0, cells := 0, slots := 0, locals := 0 } : Room).cells ({ frames := 0, cells := 0, slots := 0, locals := 0 } : Room).slots) := by
  refine MetFree.of_bodySF pn_8 hisR ?_
  intro p e s m args below meth c s₁ Bd hml0 hP hK
  obtain ⟨rfl, hZ, hh⟩ := hP
  have hx := Bd.exec
  have hby := Bd.bytes
  have hlk := BodyLoose.notSynchronized Bd
  have hml : c.maxLocals = 2 := hml0
  have hown : s.vm.findClass "com/example/tynemouth/tynemouth/control/ArrivalWindow" = some m.cls := findClass_of_methodNamed Bd.named
  have hnm := (name_of_methodNamed Bd.named Bd.method).1
  have X0 : Stand p l e ({ frames := 0, cells := 0, slots := 0, locals := 0 } : Room) s m #[(.ref a1)] below meth c s₁ [] 0 0 := Stand.of_body Bd
  have e0 : s₁.heap = h0 := by rw [← hh, Bd.state]; rfl
  have N0 := Fr.nil n0
  show OwnWp p e below s ({ frames := 0, cells := 0, slots := 0, locals := 0 } : Room).cells ({ frames := 0, cells := 0, slots := 0, locals := 0 } : Room).slots (Q8 Z a1 b1 b2 f g o s0 d h0 n0) (s₁.setTop (entryFrame m #[(.ref a1)] 2))
  refine OwnWp.cast (ef_8 m a1) ?_
  show OwnWp p e below s _ _ _ (s₁.setTop (mkF m 0 #[.val (.ref a1), .unset] []))
  have K0 := Keep.refl h0 [a1, b2]
  refine OwnWp.step (U' := s₁.setTop (mkF m 1 #[.val (.ref a1), .unset] [(.ref a1)])) (fun t k => ?_) ?_
  · show Steps p.tables e below (s₁.setTop (mkF m 0 #[.val (.ref a1), .unset] [])) _
    refine XS.aloadN X0.here hx rfl (hb hby d8_0) rfl rfl ?_
    show Steps p.tables e below (s₁.setTop (mkF m 1 #[.val (.ref a1), .unset] [(.ref a1)])) _
    exact k
  obtain ⟨T103, X103, e103, st103⟩ := getF X0 hx hZ hown (host := "") (Or.inl (hw _ (List.mem_of_getElem? (i := 22) rfl))) Via.refl e0 Fold (g := (mkF m 1 #[.val (.ref a1), .unset] [(.ref a1)])) rfl rfl (hb hby d8_1)
  refine OwnWp.step st103 ?_
  show OwnWp p e below s _ _ _ (T103.setTop (mkF m 4 #[.val (.ref a1), .unset] [(.int o)]))
  refine OwnWp.step (U' := T103.setTop (mkF m 5 #[.val (.ref a1), .unset] [(.ref a1), (.int o)])) (fun t k => ?_) ?_
  · show Steps p.tables e below (T103.setTop (mkF m 4 #[.val (.ref a1), .unset] [(.int o)])) _
    refine XS.aloadN X103.here hx rfl (hb hby d8_4) rfl rfl ?_
    show Steps p.tables e below (T103.setTop (mkF m 5 #[.val (.ref a1), .unset] [(.ref a1), (.int o)])) _
    exact k
  obtain ⟨T104, X104, e104, st104⟩ := getF X103 hx hZ hown (host := "") (Or.inl (hw _ (List.mem_of_getElem? (i := 20) rfl))) Via.refl e103 Fsiz (g := (mkF m 5 #[.val (.ref a1), .unset] [(.ref a1), (.int o)])) rfl rfl (hb hby d8_5)
  refine OwnWp.step st104 ?_
  show OwnWp p e below s _ _ _ (T104.setTop (mkF m 8 #[.val (.ref a1), .unset] [(.int s0), (.int o)]))
  refine OwnWp.step (U' := T104.setTop (mkF m 12 #[.val (.ref a1), .unset] [(.ref a1), (.int ((o + s0) - (1 : Int32)))])) (fun t k => ?_) ?_
  · show Steps p.tables e below (T104.setTop (mkF m 8 #[.val (.ref a1), .unset] [(.int s0), (.int o)])) _
    refine XS.iadd X104.here hx rfl (hb hby d8_8) rfl ?_
    show Steps p.tables e below (T104.setTop (mkF m 9 #[.val (.ref a1), .unset] [(.int (o + s0))])) _
    refine XT.iconstV X104.here hx rfl (1 : Int32) (hb hby d8_9) rfl ?_
    show Steps p.tables e below (T104.setTop (mkF m 10 #[.val (.ref a1), .unset] [(.int (1 : Int32)), (.int (o + s0))])) _
    refine XS.isub X104.here hx rfl (hb hby d8_10) rfl ?_
    show Steps p.tables e below (T104.setTop (mkF m 11 #[.val (.ref a1), .unset] [(.int ((o + s0) - (1 : Int32)))])) _
    refine XS.aloadN X104.here hx rfl (hb hby d8_11) rfl rfl ?_
    show Steps p.tables e below (T104.setTop (mkF m 12 #[.val (.ref a1), .unset] [(.ref a1), (.int ((o + s0) - (1 : Int32)))])) _
    exact k
  obtain ⟨T105, X105, e105, st105⟩ := getF X104 hx hZ hown (host := "") (Or.inl (hw _ (List.mem_of_getElem? (i := 10) rfl))) Via.refl e104 Fins (g := (mkF m 12 #[.val (.ref a1), .unset] [(.ref a1), (.int ((o + s0) - (1 : Int32)))])) rfl rfl (hb hby d8_12)
  refine OwnWp.step st105 ?_
  show OwnWp p e below s _ _ _ (T105.setTop (mkF m 15 #[.val (.ref a1), .unset] [(.ref b1), (.int ((o + s0) - (1 : Int32)))]))
  obtain ⟨w1, qw1⟩ : ∃ z : Int32, z = (((o + s0) - (1 : Int32)) % (16 : Int32)) := ⟨_, rfl⟩
  refine OwnWp.step (U' := T105.setTop (mkF m 18 #[.val (.ref a1), .val (.int w1)] [])) (fun t k => ?_) ?_
  · show Steps p.tables e below (T105.setTop (mkF m 15 #[.val (.ref a1), .unset] [(.ref b1), (.int ((o + s0) - (1 : Int32)))])) _
    refine OwnA.alen X105 hx hZ e105 A1 rfl rfl (hb hby d8_15) ?_
    show Steps p.tables e below (T105.setTop (mkF m 16 #[.val (.ref a1), .unset] [(.int (16 : Int32)), (.int ((o + s0) - (1 : Int32)))])) _
    refine iremM X105 hx rfl (hb hby d8_16) rfl (by decide) ?_
    show Steps p.tables e below (T105.setTop (mkF m 17 #[.val (.ref a1), .unset] [(.int (((o + s0) - (1 : Int32)) % (16 : Int32)))])) _
    refine XS.istoreN X105.here hx rfl (hb hby d8_17) rfl (l' := #[.val (.ref a1), .val (.int (((o + s0) - (1 : Int32)) % (16 : Int32)))]) rfl ?_
    show Steps p.tables e below (T105.setTop (mkF m 18 #[.val (.ref a1), .val (.int (((o + s0) - (1 : Int32)) % (16 : Int32)))] [])) _
    rw [qw1] at k
    exact k
  refine OwnWp.step (U' := T105.setTop (mkF m 19 #[.val (.ref a1), .val (.int w1)] [(.ref a1)])) (fun t k => ?_) ?_
  · show Steps p.tables e below (T105.setTop (mkF m 18 #[.val (.ref a1), .val (.int w1)] [])) _
    refine XS.aloadN X105.here hx rfl (hb hby d8_18) rfl rfl ?_
    show Steps p.tables e below (T105.setTop (mkF m 19 #[.val (.ref a1), .val (.int w1)] [(.ref a1)])) _
    exact k
  obtain ⟨T106, X106, e106, st106⟩ := getF X105 hx hZ hown (host := "") (Or.inl (hw _ (List.mem_of_getElem? (i := 13) rfl))) Via.refl e105 Fadm (g := (mkF m 19 #[.val (.ref a1), .val (.int w1)] [(.ref a1)])) rfl rfl (hb hby d8_19)
  refine OwnWp.step st106 ?_
  show OwnWp p e below s _ _ _ (T106.setTop (mkF m 22 #[.val (.ref a1), .val (.int w1)] [(.ref b2)]))
  refine OwnWp.step (U' := T106.setTop (mkF m 24 #[.val (.ref a1), .val (.int w1)] [(.int (g w1.toInt))])) (fun t k => ?_) ?_
  · show Steps p.tables e below (T106.setTop (mkF m 22 #[.val (.ref a1), .val (.int w1)] [(.ref b2)])) _
    refine XS.iloadN X106.here hx rfl (hb hby d8_22) rfl ?_
    show Steps p.tables e below (T106.setTop (mkF m 23 #[.val (.ref a1), .val (.int w1)] [(.int w1), (.ref b2)])) _
    refine OwnA.ldZ X106 hx hZ e106 A2 (own_jx o s0 ho hs hs1 w1 qw1).1 (own_jx o s0 ho hs hs1 w1 qw1).2 rfl rfl (hb hby d8_23) ?_
    show Steps p.tables e below (T106.setTop (mkF m 24 #[.val (.ref a1), .val (.int w1)] [(.int (g w1.toInt))])) _
    exact k
  by_cases c24_107 : (g w1.toInt) = (0 : Int32)
  · refine OwnWp.step (U' := T106.setTop (mkF m 27 #[.val (.ref a1), .val (.int w1)] [])) (fun t k => ?_) ?_
    · show Steps p.tables e below (T106.setTop (mkF m 24 #[.val (.ref a1), .val (.int w1)] [(.int (g w1.toInt))])) _
      refine XS.ifNo X106.here hx rfl (hb hby d8_24) rfl (XT.i0_ne_f c24_107) ?_
      exact k
    refine OwnWp.step (U' := T106.setTop (mkF m 28 #[.val (.ref a1), .val (.int w1)] [(.ref a1)])) (fun t k => ?_) ?_
    · show Steps p.tables e below (T106.setTop (mkF m 27 #[.val (.ref a1), .val (.int w1)] [])) _
      refine XS.aloadN X106.here hx rfl (hb hby d8_27) rfl rfl ?_
      show Steps p.tables e below (T106.setTop (mkF m 28 #[.val (.ref a1), .val (.int w1)] [(.ref a1)])) _
      exact k
    obtain ⟨T108, X108, e108, st108⟩ := getF X106 hx hZ hown (host := "") (Or.inl (hw _ (List.mem_of_getElem? (i := 13) rfl))) Via.refl e106 Fadm (g := (mkF m 28 #[.val (.ref a1), .val (.int w1)] [(.ref a1)])) rfl rfl (hb hby d8_28)
    refine OwnWp.step st108 ?_
    show OwnWp p e below s _ _ _ (T108.setTop (mkF m 31 #[.val (.ref a1), .val (.int w1)] [(.ref b2)]))
    refine OwnWp.step (U' := T108.setTop (mkF m 33 #[.val (.ref a1), .val (.int w1)] [(.int (1 : Int32)), (.int w1), (.ref b2)])) (fun t k => ?_) ?_
    · show Steps p.tables e below (T108.setTop (mkF m 31 #[.val (.ref a1), .val (.int w1)] [(.ref b2)])) _
      refine XS.iloadN X108.here hx rfl (hb hby d8_31) rfl ?_
      show Steps p.tables e below (T108.setTop (mkF m 32 #[.val (.ref a1), .val (.int w1)] [(.int w1), (.ref b2)])) _
      refine XT.iconstV X108.here hx rfl (1 : Int32) (hb hby d8_32) rfl ?_
      show Steps p.tables e below (T108.setTop (mkF m 33 #[.val (.ref a1), .val (.int w1)] [(.int (1 : Int32)), (.int w1), (.ref b2)])) _
      exact k
    obtain ⟨T109, h109, L109, X109, e109, N109, K109, F109, st109⟩ := OwnA.stZ X108 hx hZ e108 N0 g2 A2 (own_jx o s0 ho hs hs1 w1 qw1).1 (own_jx o s0 ho hs hs1 w1 qw1).2 (g := (mkF m 33 #[.val (.ref a1), .val (.int w1)] [(.int (1 : Int32)), (.int w1), (.ref b2)])) rfl rfl (hb hby d8_33)
    refine OwnWp.step st109 ?_
    have Z109 : n0 ≤ h109.size := Nat.le_trans Z0 K109.1
    have f110 := Exa.keep E0 K109
    have f111 := Fld.keep Fins K109 (ninS ne2 nin0)
    have f112 := Fld.keep Fadm K109 (ninS ne2 nin0)
    have f113 := Fld.keep Fold K109 (ninS ne2 nin0)
    have f114 := Fld.keep Fsiz K109 (ninS ne2 nin0)
    have f115 := Fld.keep FadmH K109 (ninS ne2 nin0)
    have f116 := OwnA.keep A1 K109 (ninS ne3 nin0)
    have F117 : OwnA Z h109 b2 .boolean (16 : Int32) (fun i => .int ((ownUpd g w1.toInt (nar .boolean (1 : Int32))) i)) := F109.congr (fun i _ _ => by simp only [ownUpd]; split <;> rfl)
    have K118 := Keep.trans K0 K109 (allS (Or.inl (List.mem_of_getElem? (i := 1) rfl)) all0)
    show OwnWp p e below s _ _ _ (T109.setTop (mkF m 34 #[.val (.ref a1), .val (.int w1)] []))
    refine OwnWp.step (U' := T109.setTop (mkF m 36 #[.val (.ref a1), .val (.int w1)] [(.ref a1), (.ref a1)])) (fun t k => ?_) ?_
    · show Steps p.tables e below (T109.setTop (mkF m 34 #[.val (.ref a1), .val (.int w1)] [])) _
      refine XS.aloadN X109.here hx rfl (hb hby d8_34) rfl rfl ?_
      show Steps p.tables e below (T109.setTop (mkF m 35 #[.val (.ref a1), .val (.int w1)] [(.ref a1)])) _
      refine XS.dup X109.here hx rfl (hb hby d8_35) rfl rfl ?_
      show Steps p.tables e below (T109.setTop (mkF m 36 #[.val (.ref a1), .val (.int w1)] [(.ref a1), (.ref a1)])) _
      exact k
    obtain ⟨T119, X119, e119, st119⟩ := getF X109 hx hZ hown (host := "") (Or.inl (hw _ (List.mem_of_getElem? (i := 39) rfl))) Via.refl e109 f115 (g := (mkF m 36 #[.val (.ref a1), .val (.int w1)] [(.ref a1), (.ref a1)])) rfl rfl (hb hby d8_36)
    refine OwnWp.step st119 ?_
    show OwnWp p e below s _ _ _ (T119.setTop (mkF m 39 #[.val (.ref a1), .val (.int w1)] [(.long d), (.ref a1)]))
    refine OwnWp.step (U' := T119.setTop (mkF m 41 #[.val (.ref a1), .val (.int w1)] [(.long (d + (1 : Int64))), (.ref a1)])) (fun t k => ?_) ?_
    · show Steps p.tables e below (T119.setTop (mkF m 39 #[.val (.ref a1), .val (.int w1)] [(.long d), (.ref a1)])) _
      refine XT.lconstV X119.here hx rfl (1 : Int64) (hb hby d8_39) rfl ?_
      show Steps p.tables e below (T119.setTop (mkF m 40 #[.val (.ref a1), .val (.int w1)] [(.long (1 : Int64)), (.long d), (.ref a1)])) _
      refine XT.ladd X119.here hx rfl (hb hby d8_40) rfl ?_
      show Steps p.tables e below (T119.setTop (mkF m 41 #[.val (.ref a1), .val (.int w1)] [(.long (d + (1 : Int64))), (.ref a1)])) _
      exact k
    obtain ⟨T120, h120, X120, e120, W120, st120⟩ := putF X119 hx hZ hown (host := "") (Or.inl (hw _ (List.mem_of_getElem? (i := 39) rfl))) Via.refl e119 f115 f110 (Or.inl (hw _ (List.mem_of_getElem? (i := 40) rfl))) (hw _ (List.mem_of_getElem? (i := 1) rfl)) (ty := .long) (by decide) rfl rfl (g := (mkF m 41 #[.val (.ref a1), .val (.int w1)] [(.long (d + (1 : Int64))), (.ref a1)])) rfl rfl (hb hby d8_41)
    have N120 := own_frs (sl := Jvm.RoadKit.slotOf Z "com/example/tynemouth/tynemouth/control/ArrivalWindow" "admittedHeld" "J") N109 g0
    have Z120 : n0 ≤ h120.size := by rw [W120.size]; exact Z109
    refine OwnWp.step st120 ?_
    have f121 := Exa.wr W120 f110
    have f122 := Fld.other W120 f111 (Or.inr (slot_ne (C := "com/example/tynemouth/tynemouth/control/ArrivalWindow") (Or.inl (hw _ (List.mem_of_getElem? (i := 11) rfl))) (Or.inl (hw _ (List.mem_of_getElem? (i := 40) rfl))) (by decide) (t := (.array .long)) (t' := .long) (by decide) (by decide)))
    have f123 := Fld.other W120 f112 (Or.inr (slot_ne (C := "com/example/tynemouth/tynemouth/control/ArrivalWindow") (Or.inl (hw _ (List.mem_of_getElem? (i := 14) rfl))) (Or.inl (hw _ (List.mem_of_getElem? (i := 40) rfl))) (by decide) (t := (.array .boolean)) (t' := .long) (by decide) (by decide)))
    have f124 := Fld.other W120 f113 (Or.inr (slot_ne (C := "com/example/tynemouth/tynemouth/control/ArrivalWindow") (Or.inl (hw _ (List.mem_of_getElem? (i := 23) rfl))) (Or.inl (hw _ (List.mem_of_getElem? (i := 40) rfl))) (by decide) (t := .int) (t' := .long) (by decide) (by decide)))
    have f125 := Fld.other W120 f114 (Or.inr (slot_ne (C := "com/example/tynemouth/tynemouth/control/ArrivalWindow") (Or.inl (hw _ (List.mem_of_getElem? (i := 21) rfl))) (Or.inl (hw _ (List.mem_of_getElem? (i := 40) rfl))) (by decide) (t := .int) (t' := .long) (by decide) (by decide)))
    have f126 := Fld.same W120 f115
    have f127 := OwnA.other f116 W120 ne1.symm
    have f128 := OwnA.other F117 W120 ne2.symm
    have K129 := Keep.wr K118 W120 (Or.inl (List.mem_of_getElem? (i := 0) rfl))
    show OwnWp p e below s _ _ _ (T120.setTop (mkF m 44 #[.val (.ref a1), .val (.int w1)] []))
    refine OwnWp.retV X120 hx hlk Bd.returns (hb hby d8_44) (by decide) (by decide) ?_
    rw [e120]
    refine ⟨rfl, N120, K129, f122, f123, f124, f125, ?_, ?_⟩
    · rw [← qw1, own_admD, if_pos c24_107]; exact f126
    · rw [← qw1, own_adm, if_pos c24_107]; exact f128
  · refine OwnWp.step (U' := T106.setTop (mkF m 44 #[.val (.ref a1), .val (.int w1)] [])) (fun t k => ?_) ?_
    · show Steps p.tables e below (T106.setTop (mkF m 24 #[.val (.ref a1), .val (.int w1)] [(.int (g w1.toInt))])) _
      refine XS.ifYes X106.here hx rfl (pc0 := 24) (pc' := 44) rfl (hb hby d8_24) rfl (XT.i0_ne_t c24_107) (by decide) (by decide) ?_
      exact k
    refine OwnWp.retV X106 hx hlk Bd.returns (hb hby d8_44) (by decide) (by decide) ?_
    rw [e106]
    refine ⟨rfl, N0, K0, Fins, Fadm, Fold, Fsiz, ?_, ?_⟩
    · rw [← qw1, own_admD, if_neg c24_107]; exact FadmH
    · rw [← qw1, own_adm, if_neg c24_107]; exact A2
theorem d5_0 : decode prog_21_method_5_code 0 = .ok (.aload_n 0, 1) := by decide +kernel
theorem d5_1 : decode prog_21_method_5_code 1 = .ok (.getfield 17, 3) := by decide +kernel
theorem d5_4 : decode prog_21_method_5_code 4 = .ok (.ireturn, 1) := by decide +kernel
theorem pn_5 : plainFor (⟨"com/example/tynemouth/tynemouth/control/ArrivalWindow", "size", "()I"⟩ : MethodName) = true := plainFor_of_name (by first | (simp [plainName, overriddenIn]; done) | decide +kernel)
theorem pd_5 : parseMethodDescriptor "()I" = some ⟨[], some .int⟩ := by decide +kernel
theorem ef_5 (m : MethodId) (x0 : Addr) : entryFrame m #[(.ref x0)] 1 = mkF m 0 #[.val (.ref x0)] [] := by first | (simp [entryFrame, mkF, argsToLocals, Value.category, maxLocals]; done) | rfl
def Q5 (Z : State) (a1 : Addr) (b1 : Addr) (b2 : Addr) (f : Int → Int64) (g : Int → Int32) (o : Int32) (s0 : Int32) (d : Int64) (h0 : Heap) (n0 : Nat) (v : Option Value) (h : Heap) (L : List Loc) : Prop := v = some (.int s0) ∧ Fr n0 L ∧ h = h0
set_option maxRecDepth 65536 in
set_option maxHeartbeats 40000000 in
theorem rm5 (l : Launch) (Z : State) (a0 : Array Value) (hw : ∀ d ∈ tables_1, d.before a0 Z = true) (ws : List Jvm.Cond) (a1 : Addr) (b1 : Addr) (b2 : Addr) (f : Int → Int64) (g : Int → Int32) (o : Int32) (s0 : Int32) (d : Int64) (h0 : Heap) (n0 : Nat) (Z0 : n0 ≤ h0.size) (g0 : n0 ≤ a1) (g1 : n0 ≤ b1) (g2 : n0 ≤ b2) (ne1 : a1 ≠ b1) (ne2 : a1 ≠ b2) (ne3 : b1 ≠ b2) (E0 : Exa Z h0 a1 "com/example/tynemouth/tynemouth/control/ArrivalWindow") (Fins : Fld Z h0 a1 "com/example/tynemouth/tynemouth/control/ArrivalWindow" "instants" "[J" (.ref b1)) (Fadm : Fld Z h0 a1 "com/example/tynemouth/tynemouth/control/ArrivalWindow" "admitted" "[Z" (.ref b2)) (Fold : Fld Z h0 a1 "com/example/tynemouth/tynemouth/control/ArrivalWindow" "oldest" "I" (.int o)) (Fsiz : Fld Z h0 a1 "com/example/tynemouth/tynemouth/control/ArrivalWindow" "size" "I" (.int s0)) (FadmH : Fld Z h0 a1 "com/example/tynemouth/tynemouth/control/ArrivalWindow" "admittedHeld" "J" (.long d)) (A1 : OwnA Z h0 b1 .long (16 : Int32) (fun i => .long (f i))) (A2 : OwnA Z h0 b2 .boolean (16 : Int32) (fun i => .int (g i))) (ho : 0 ≤ o.toInt ∧ o.toInt < 16) (hs : 0 ≤ s0.toInt ∧ s0.toInt ≤ 15)  :
    MetFree l (⟨"com/example/tynemouth/tynemouth/control/ArrivalWindow", "size", "()I"⟩ : MethodName) (head1 (Jvm.Cond.code (⟨"com/example/tynemouth/tynemouth/control/ArrivalWindow", "size", "()I"⟩ : MethodName) prog_21_method_5_code 1 (some .int) :: ws) ({ frames := 0, cells := 0, slots := 0, locals := 0 } : Room)) (fun a U => a = #[(.ref a1)] ∧ Z.Warmed39 U.vm ∧ U.heap = h0) (fun _ _ _ _ _ => True) (fun _ U oc U' => ∃ v L, oc = .returned v ∧ Q5 Z a1 b1 b2 f g o s0 d h0 n0 v U'.heap L ∧ FrameEnd U oc U' L ({ frames := 0, cells := 0, slots := 0, locals := 0 } : Room).cells ({ frames := 0, cells := 0, slots := 0, locals := 0 } : Room).slots) := by
  refine MetFree.of_bodySF pn_5 hisR ?_
  intro p e s m args below meth c s₁ Bd hml0 hP hK
  obtain ⟨rfl, hZ, hh⟩ := hP
  have hx := Bd.exec
  have hby := Bd.bytes
  have hlk := BodyLoose.notSynchronized Bd
  have hml : c.maxLocals = 1 := hml0
  have hown : s.vm.findClass "com/example/tynemouth/tynemouth/control/ArrivalWindow" = some m.cls := findClass_of_methodNamed Bd.named
  have hnm := (name_of_methodNamed Bd.named Bd.method).1
  have X0 : Stand p l e ({ frames := 0, cells := 0, slots := 0, locals := 0 } : Room) s m #[(.ref a1)] below meth c s₁ [] 0 0 := Stand.of_body Bd
  have e0 : s₁.heap = h0 := by rw [← hh, Bd.state]; rfl
  have N0 := Fr.nil n0
  show OwnWp p e below s ({ frames := 0, cells := 0, slots := 0, locals := 0 } : Room).cells ({ frames := 0, cells := 0, slots := 0, locals := 0 } : Room).slots (Q5 Z a1 b1 b2 f g o s0 d h0 n0) (s₁.setTop (entryFrame m #[(.ref a1)] 1))
  refine OwnWp.cast (ef_5 m a1) ?_
  show OwnWp p e below s _ _ _ (s₁.setTop (mkF m 0 #[.val (.ref a1)] []))
  have K0 := Keep.refl h0 []
  refine OwnWp.step (U' := s₁.setTop (mkF m 1 #[.val (.ref a1)] [(.ref a1)])) (fun t k => ?_) ?_
  · show Steps p.tables e below (s₁.setTop (mkF m 0 #[.val (.ref a1)] [])) _
    refine XS.aloadN X0.here hx rfl (hb hby d5_0) rfl rfl ?_
    show Steps p.tables e below (s₁.setTop (mkF m 1 #[.val (.ref a1)] [(.ref a1)])) _
    exact k
  obtain ⟨T130, X130, e130, st130⟩ := getF X0 hx hZ hown (host := "") (Or.inl (hw _ (List.mem_of_getElem? (i := 20) rfl))) Via.refl e0 Fsiz (g := (mkF m 1 #[.val (.ref a1)] [(.ref a1)])) rfl rfl (hb hby d5_1)
  refine OwnWp.step st130 ?_
  show OwnWp p e below s _ _ _ (T130.setTop (mkF m 4 #[.val (.ref a1)] [(.int s0)]))
  refine OwnWp.retI X130 hx hlk Bd.returns (hb hby d5_4) (by decide) (by decide) ?_
  exact ⟨rfl, N0, e130⟩
theorem d6_0 : decode prog_21_method_7_code 0 = .ok (.aload_n 0, 1) := by decide +kernel
theorem d6_1 : decode prog_21_method_7_code 1 = .ok (.getfield 30, 3) := by decide +kernel
theorem d6_4 : decode prog_21_method_7_code 4 = .ok (.aload_n 0, 1) := by decide +kernel
theorem d6_5 : decode prog_21_method_7_code 5 = .ok (.getfield 13, 3) := by decide +kernel
theorem d6_8 : decode prog_21_method_7_code 8 = .ok (.aload_n 0, 1) := by decide +kernel
theorem d6_9 : decode prog_21_method_7_code 9 = .ok (.getfield 27, 3) := by decide +kernel
theorem d6_12 : decode prog_21_method_7_code 12 = .ok (.baload, 1) := by decide +kernel
theorem d6_13 : decode prog_21_method_7_code 13 = .ok (.ifCond .eq 7, 3) := by decide +kernel
theorem d6_16 : decode prog_21_method_7_code 16 = .ok (.iconst 1, 1) := by decide +kernel
theorem d6_17 : decode prog_21_method_7_code 17 = .ok (.goto 4, 3) := by decide +kernel
theorem d6_20 : decode prog_21_method_7_code 20 = .ok (.iconst 0, 1) := by decide +kernel
theorem d6_21 : decode prog_21_method_7_code 21 = .ok (.i2l, 1) := by decide +kernel
theorem d6_22 : decode prog_21_method_7_code 22 = .ok (.lsub, 1) := by decide +kernel
theorem d6_23 : decode prog_21_method_7_code 23 = .ok (.lreturn, 1) := by decide +kernel
theorem pn_6 : plainFor (⟨"com/example/tynemouth/tynemouth/control/ArrivalWindow", "admittedAfterOldest", "()J"⟩ : MethodName) = true := plainFor_of_name (by first | (simp [plainName, overriddenIn]; done) | decide +kernel)
theorem pd_6 : parseMethodDescriptor "()J" = some ⟨[], some .long⟩ := by decide +kernel
theorem ef_6 (m : MethodId) (x0 : Addr) : entryFrame m #[(.ref x0)] 1 = mkF m 0 #[.val (.ref x0)] [] := by first | (simp [entryFrame, mkF, argsToLocals, Value.category, maxLocals]; done) | rfl
def Q6 (Z : State) (a1 : Addr) (b1 : Addr) (b2 : Addr) (f : Int → Int64) (g : Int → Int32) (o : Int32) (s0 : Int32) (d : Int64) (h0 : Heap) (n0 : Nat) (v : Option Value) (h : Heap) (L : List Loc) : Prop := v = some (.long (own_after g o d)) ∧ Fr n0 L ∧ h = h0
set_option maxRecDepth 65536 in
set_option maxHeartbeats 40000000 in
theorem rm6 (l : Launch) (Z : State) (a0 : Array Value) (hw : ∀ d ∈ tables_1, d.before a0 Z = true) (ws : List Jvm.Cond) (a1 : Addr) (b1 : Addr) (b2 : Addr) (f : Int → Int64) (g : Int → Int32) (o : Int32) (s0 : Int32) (d : Int64) (h0 : Heap) (n0 : Nat) (Z0 : n0 ≤ h0.size) (g0 : n0 ≤ a1) (g1 : n0 ≤ b1) (g2 : n0 ≤ b2) (ne1 : a1 ≠ b1) (ne2 : a1 ≠ b2) (ne3 : b1 ≠ b2) (E0 : Exa Z h0 a1 "com/example/tynemouth/tynemouth/control/ArrivalWindow") (Fins : Fld Z h0 a1 "com/example/tynemouth/tynemouth/control/ArrivalWindow" "instants" "[J" (.ref b1)) (Fadm : Fld Z h0 a1 "com/example/tynemouth/tynemouth/control/ArrivalWindow" "admitted" "[Z" (.ref b2)) (Fold : Fld Z h0 a1 "com/example/tynemouth/tynemouth/control/ArrivalWindow" "oldest" "I" (.int o)) (Fsiz : Fld Z h0 a1 "com/example/tynemouth/tynemouth/control/ArrivalWindow" "size" "I" (.int s0)) (FadmH : Fld Z h0 a1 "com/example/tynemouth/tynemouth/control/ArrivalWindow" "admittedHeld" "J" (.long d)) (A1 : OwnA Z h0 b1 .long (16 : Int32) (fun i => .long (f i))) (A2 : OwnA Z h0 b2 .boolean (16 : Int32) (fun i => .int (g i))) (ho : 0 ≤ o.toInt ∧ o.toInt < 16) (hs : 0 ≤ s0.toInt ∧ s0.toInt ≤ 15)  :
    MetFree l (⟨"com/example/tynemouth/tynemouth/control/ArrivalWindow", "admittedAfterOldest", "()J"⟩ : MethodName) (head1 (Jvm.Cond.code (⟨"com/example/tynemouth/tynemouth/control/ArrivalWindow", "admittedAfterOldest", "()J"⟩ : MethodName) prog_21_method_7_code 1 (some .long) :: ws) ({ frames := 0, cells := 0, slots := 0, locals := 0 } : Room)) (fun a U => a = #[(.ref a1)] ∧ Z.Warmed39 U.vm ∧ U.heap = h0) (fun _ _ _ _ _ => True) (fun _ U oc U' => ∃ v L, oc = .returned v ∧ Q6 Z a1 b1 b2 f g o s0 d h0 n0 v U'.heap L ∧ FrameEnd U oc U' L ({ frames := 0, cells := 0, slots := 0, locals := 0 } : Room).cells ({ frames := 0, cells := 0, slots := 0, locals := 0 } : Room).slots) := by
  refine MetFree.of_bodySF pn_6 hisR ?_
  intro p e s m args below meth c s₁ Bd hml0 hP hK
  obtain ⟨rfl, hZ, hh⟩ := hP
  have hx := Bd.exec
  have hby := Bd.bytes
  have hlk := BodyLoose.notSynchronized Bd
  have hml : c.maxLocals = 1 := hml0
  have hown : s.vm.findClass "com/example/tynemouth/tynemouth/control/ArrivalWindow" = some m.cls := findClass_of_methodNamed Bd.named
  have hnm := (name_of_methodNamed Bd.named Bd.method).1
  have X0 : Stand p l e ({ frames := 0, cells := 0, slots := 0, locals := 0 } : Room) s m #[(.ref a1)] below meth c s₁ [] 0 0 := Stand.of_body Bd
  have e0 : s₁.heap = h0 := by rw [← hh, Bd.state]; rfl
  have N0 := Fr.nil n0
  show OwnWp p e below s ({ frames := 0, cells := 0, slots := 0, locals := 0 } : Room).cells ({ frames := 0, cells := 0, slots := 0, locals := 0 } : Room).slots (Q6 Z a1 b1 b2 f g o s0 d h0 n0) (s₁.setTop (entryFrame m #[(.ref a1)] 1))
  refine OwnWp.cast (ef_6 m a1) ?_
  show OwnWp p e below s _ _ _ (s₁.setTop (mkF m 0 #[.val (.ref a1)] []))
  have K0 := Keep.refl h0 []
  refine OwnWp.step (U' := s₁.setTop (mkF m 1 #[.val (.ref a1)] [(.ref a1)])) (fun t k => ?_) ?_
  · show Steps p.tables e below (s₁.setTop (mkF m 0 #[.val (.ref a1)] [])) _
    refine XS.aloadN X0.here hx rfl (hb hby d6_0) rfl rfl ?_
    show Steps p.tables e below (s₁.setTop (mkF m 1 #[.val (.ref a1)] [(.ref a1)])) _
    exact k
  obtain ⟨T131, X131, e131, st131⟩ := getF X0 hx hZ hown (host := "") (Or.inl (hw _ (List.mem_of_getElem? (i := 39) rfl))) Via.refl e0 FadmH (g := (mkF m 1 #[.val (.ref a1)] [(.ref a1)])) rfl rfl (hb hby d6_1)
  refine OwnWp.step st131 ?_
  show OwnWp p e below s _ _ _ (T131.setTop (mkF m 4 #[.val (.ref a1)] [(.long d)]))
  refine OwnWp.step (U' := T131.setTop (mkF m 5 #[.val (.ref a1)] [(.ref a1), (.long d)])) (fun t k => ?_) ?_
  · show Steps p.tables e below (T131.setTop (mkF m 4 #[.val (.ref a1)] [(.long d)])) _
    refine XS.aloadN X131.here hx rfl (hb hby d6_4) rfl rfl ?_
    show Steps p.tables e below (T131.setTop (mkF m 5 #[.val (.ref a1)] [(.ref a1), (.long d)])) _
    exact k
  obtain ⟨T132, X132, e132, st132⟩ := getF X131 hx hZ hown (host := "") (Or.inl (hw _ (List.mem_of_getElem? (i := 13) rfl))) Via.refl e131 Fadm (g := (mkF m 5 #[.val (.ref a1)] [(.ref a1), (.long d)])) rfl rfl (hb hby d6_5)
  refine OwnWp.step st132 ?_
  show OwnWp p e below s _ _ _ (T132.setTop (mkF m 8 #[.val (.ref a1)] [(.ref b2), (.long d)]))
  refine OwnWp.step (U' := T132.setTop (mkF m 9 #[.val (.ref a1)] [(.ref a1), (.ref b2), (.long d)])) (fun t k => ?_) ?_
  · show Steps p.tables e below (T132.setTop (mkF m 8 #[.val (.ref a1)] [(.ref b2), (.long d)])) _
    refine XS.aloadN X132.here hx rfl (hb hby d6_8) rfl rfl ?_
    show Steps p.tables e below (T132.setTop (mkF m 9 #[.val (.ref a1)] [(.ref a1), (.ref b2), (.long d)])) _
    exact k
  obtain ⟨T133, X133, e133, st133⟩ := getF X132 hx hZ hown (host := "") (Or.inl (hw _ (List.mem_of_getElem? (i := 22) rfl))) Via.refl e132 Fold (g := (mkF m 9 #[.val (.ref a1)] [(.ref a1), (.ref b2), (.long d)])) rfl rfl (hb hby d6_9)
  refine OwnWp.step st133 ?_
  show OwnWp p e below s _ _ _ (T133.setTop (mkF m 12 #[.val (.ref a1)] [(.int o), (.ref b2), (.long d)]))
  refine OwnWp.step (U' := T133.setTop (mkF m 13 #[.val (.ref a1)] [(.int (g o.toInt)), (.long d)])) (fun t k => ?_) ?_
  · show Steps p.tables e below (T133.setTop (mkF m 12 #[.val (.ref a1)] [(.int o), (.ref b2), (.long d)])) _
    refine OwnA.ldZ X133 hx hZ e133 A2 ho.1 (by rw [show (16 : Int32).toInt = 16 from rfl]; exact ho.2) rfl rfl (hb hby d6_12) ?_
    show Steps p.tables e below (T133.setTop (mkF m 13 #[.val (.ref a1)] [(.int (g o.toInt)), (.long d)])) _
    exact k
  obtain ⟨w1, qw1⟩ : ∃ z : Int32, z = (if (g o.toInt) = (0 : Int32) then (0 : Int32) else (1 : Int32)) := ⟨_, rfl⟩
  refine OwnWp.step (U' := T133.setTop (mkF m 21 #[.val (.ref a1)] [(.int w1), (.long d)])) (fun t k => ?_) ?_
  · show Steps p.tables e below (T133.setTop (mkF m 13 #[.val (.ref a1)] [(.int (g o.toInt)), (.long d)])) _
    by_cases c13_134 : (g o.toInt) = (0 : Int32)
    · refine XS.ifYes X133.here hx rfl (pc0 := 13) (pc' := 20) rfl (hb hby d6_13) rfl (XT.i0_eq_t c13_134) (by decide) (by decide) ?_
      show Steps p.tables e below (T133.setTop (mkF m 20 #[.val (.ref a1)] [(.long d)])) _
      refine XT.iconstV X133.here hx rfl (0 : Int32) (hb hby d6_20) rfl ?_
      show Steps p.tables e below (T133.setTop (mkF m 21 #[.val (.ref a1)] [(.int (0 : Int32)), (.long d)])) _
      rw [show w1 = (0 : Int32) from by rw [qw1, if_pos c13_134]] at k
      exact k
    · refine XS.ifNo X133.here hx rfl (hb hby d6_13) rfl (XT.i0_eq_f c13_134) ?_
      show Steps p.tables e below (T133.setTop (mkF m 16 #[.val (.ref a1)] [(.long d)])) _
      refine XT.iconstV X133.here hx rfl (1 : Int32) (hb hby d6_16) rfl ?_
      show Steps p.tables e below (T133.setTop (mkF m 17 #[.val (.ref a1)] [(.int (1 : Int32)), (.long d)])) _
      refine XS.goto X133.here hx rfl (pc0 := 17) (pc' := 21) rfl (hb hby d6_17) (by decide) (by decide) ?_
      show Steps p.tables e below (T133.setTop (mkF m 21 #[.val (.ref a1)] [(.int (1 : Int32)), (.long d)])) _
      rw [show w1 = (1 : Int32) from by rw [qw1, if_neg c13_134]] at k
      exact k
  refine OwnWp.step (U' := T133.setTop (mkF m 23 #[.val (.ref a1)] [(.long (d - w1.toInt64))])) (fun t k => ?_) ?_
  · show Steps p.tables e below (T133.setTop (mkF m 21 #[.val (.ref a1)] [(.int w1), (.long d)])) _
    refine XT.i2l X133.here hx rfl (hb hby d6_21) rfl ?_
    show Steps p.tables e below (T133.setTop (mkF m 22 #[.val (.ref a1)] [(.long w1.toInt64), (.long d)])) _
    refine XT.lsub X133.here hx rfl (hb hby d6_22) rfl ?_
    show Steps p.tables e below (T133.setTop (mkF m 23 #[.val (.ref a1)] [(.long (d - w1.toInt64))])) _
    exact k
  refine OwnWp.retJ X133 hx hlk Bd.returns (hb hby d6_23) (by decide) (by decide) ?_
  refine ⟨?_, N0, e133⟩
  subst qw1
  rfl
theorem d3_0 : decode prog_21_method_2_code 0 = .ok (.aload_n 0, 1) := by decide +kernel
theorem d3_1 : decode prog_21_method_2_code 1 = .ok (.getfield 17, 3) := by decide +kernel
theorem d3_4 : decode prog_21_method_2_code 4 = .ok (.ifCond .le 20, 3) := by decide +kernel
theorem d3_7 : decode prog_21_method_2_code 7 = .ok (.aload_n 0, 1) := by decide +kernel
theorem d3_8 : decode prog_21_method_2_code 8 = .ok (.getfield 17, 3) := by decide +kernel
theorem d3_11 : decode prog_21_method_2_code 11 = .ok (.i2l, 1) := by decide +kernel
theorem d3_12 : decode prog_21_method_2_code 12 = .ok (.lload_n 3, 1) := by decide +kernel
theorem d3_13 : decode prog_21_method_2_code 13 = .ok (.lcmp, 1) := by decide +kernel
theorem d3_14 : decode prog_21_method_2_code 14 = .ok (.ifCond .lt 10, 3) := by decide +kernel
theorem d3_17 : decode prog_21_method_2_code 17 = .ok (.aload_n 0, 1) := by decide +kernel
theorem d3_18 : decode prog_21_method_2_code 18 = .ok (.invokevirtual 21, 3) := by decide +kernel
theorem d3_21 : decode prog_21_method_2_code 21 = .ok (.goto (-21), 3) := by decide +kernel
theorem d3_24 : decode prog_21_method_2_code 24 = .ok (.aload_n 0, 1) := by decide +kernel
theorem d3_25 : decode prog_21_method_2_code 25 = .ok (.getfield 17, 3) := by decide +kernel
theorem d3_28 : decode prog_21_method_2_code 28 = .ok (.aload_n 0, 1) := by decide +kernel
theorem d3_29 : decode prog_21_method_2_code 29 = .ok (.getfield 7, 3) := by decide +kernel
theorem d3_32 : decode prog_21_method_2_code 32 = .ok (.arraylength, 1) := by decide +kernel
theorem d3_33 : decode prog_21_method_2_code 33 = .ok (.if_icmp .ne 7, 3) := by decide +kernel
theorem d3_40 : decode prog_21_method_2_code 40 = .ok (.aload_n 0, 1) := by decide +kernel
theorem d3_41 : decode prog_21_method_2_code 41 = .ok (.getfield 27, 3) := by decide +kernel
theorem d3_44 : decode prog_21_method_2_code 44 = .ok (.aload_n 0, 1) := by decide +kernel
theorem d3_45 : decode prog_21_method_2_code 45 = .ok (.getfield 17, 3) := by decide +kernel
theorem d3_48 : decode prog_21_method_2_code 48 = .ok (.iadd, 1) := by decide +kernel
theorem d3_49 : decode prog_21_method_2_code 49 = .ok (.aload_n 0, 1) := by decide +kernel
theorem d3_50 : decode prog_21_method_2_code 50 = .ok (.getfield 7, 3) := by decide +kernel
theorem d3_53 : decode prog_21_method_2_code 53 = .ok (.arraylength, 1) := by decide +kernel
theorem d3_54 : decode prog_21_method_2_code 54 = .ok (.irem, 1) := by decide +kernel
theorem d3_55 : decode prog_21_method_2_code 55 = .ok (.istore 5, 2) := by decide +kernel
theorem d3_57 : decode prog_21_method_2_code 57 = .ok (.aload_n 0, 1) := by decide +kernel
theorem d3_58 : decode prog_21_method_2_code 58 = .ok (.getfield 7, 3) := by decide +kernel
theorem d3_61 : decode prog_21_method_2_code 61 = .ok (.iload 5, 2) := by decide +kernel
theorem d3_63 : decode prog_21_method_2_code 63 = .ok (.lload_n 1, 1) := by decide +kernel
theorem d3_64 : decode prog_21_method_2_code 64 = .ok (.lastore, 1) := by decide +kernel
theorem d3_65 : decode prog_21_method_2_code 65 = .ok (.aload_n 0, 1) := by decide +kernel
theorem d3_66 : decode prog_21_method_2_code 66 = .ok (.getfield 13, 3) := by decide +kernel
theorem d3_69 : decode prog_21_method_2_code 69 = .ok (.iload 5, 2) := by decide +kernel
theorem d3_71 : decode prog_21_method_2_code 71 = .ok (.iconst 0, 1) := by decide +kernel
theorem d3_72 : decode prog_21_method_2_code 72 = .ok (.bastore, 1) := by decide +kernel
theorem d3_73 : decode prog_21_method_2_code 73 = .ok (.aload_n 0, 1) := by decide +kernel
theorem d3_74 : decode prog_21_method_2_code 74 = .ok (.dup, 1) := by decide +kernel
theorem d3_75 : decode prog_21_method_2_code 75 = .ok (.getfield 17, 3) := by decide +kernel
theorem d3_78 : decode prog_21_method_2_code 78 = .ok (.iconst 1, 1) := by decide +kernel
theorem d3_79 : decode prog_21_method_2_code 79 = .ok (.iadd, 1) := by decide +kernel
theorem d3_80 : decode prog_21_method_2_code 80 = .ok (.putfield 17, 3) := by decide +kernel
theorem d3_83 : decode prog_21_method_2_code 83 = .ok (.return_, 1) := by decide +kernel
theorem pn_3 : plainFor (⟨"com/example/tynemouth/tynemouth/control/ArrivalWindow", "add", "(JJ)V"⟩ : MethodName) = true := plainFor_of_name (by first | (simp [plainName, overriddenIn]; done) | decide +kernel)
theorem pd_3 : parseMethodDescriptor "(JJ)V" = some ⟨[.long, .long], none⟩ := by decide +kernel
theorem ef_3 (m : MethodId) (x0 : Addr) (x1 : Int64) (x2 : Int64) : entryFrame m #[(.ref x0), (.long x1), (.long x2)] 6 = mkF m 0 #[.val (.ref x0), .val (.long x1), .second, .val (.long x2), .second, .unset] [] := by first | (simp [entryFrame, mkF, argsToLocals, Value.category, maxLocals]; done) | rfl
def Q3 (Z : State) (a1 : Addr) (p1 : Int64) (p2 : Int64) (b1 : Addr) (b2 : Addr) (f : Int → Int64) (g : Int → Int32) (o : Int32) (s0 : Int32) (d : Int64) (h0 : Heap) (n0 : Nat) (v : Option Value) (h : Heap) (L : List Loc) : Prop := v = none ∧ Fr n0 L ∧ Keep h0 h [a1, b1, b2] ∧ ∃ (o1 s1 : Int32) (d1 : Int64) (f' : Int → Int64), own_isdrops g p2 s0.toInt.toNat o s0 d o1 s1 d1 ∧ (0 ≤ o1.toInt ∧ o1.toInt < 16) ∧ (0 ≤ s1.toInt ∧ s1.toInt ≤ s0.toInt) ∧ Fld Z h a1 "com/example/tynemouth/tynemouth/control/ArrivalWindow" "instants" "[J" (.ref b1) ∧ Fld Z h a1 "com/example/tynemouth/tynemouth/control/ArrivalWindow" "admitted" "[Z" (.ref b2) ∧ Fld Z h a1 "com/example/tynemouth/tynemouth/control/ArrivalWindow" "oldest" "I" (.int o1) ∧ Fld Z h a1 "com/example/tynemouth/tynemouth/control/ArrivalWindow" "size" "I" (.int (s1 + (1 : Int32))) ∧ Fld Z h a1 "com/example/tynemouth/tynemouth/control/ArrivalWindow" "admittedHeld" "J" (.long d1) ∧ OwnA Z h b1 .long (16 : Int32) (fun i => .long (f' i)) ∧ OwnA Z h b2 .boolean (16 : Int32) (fun i => .int ((ownUpd g ((o1 + s1) % (16 : Int32)).toInt (nar .boolean (0 : Int32))) i))
set_option maxRecDepth 65536 in
set_option maxHeartbeats 40000000 in
theorem rm3 (l : Launch) (Z : State) (a0 : Array Value) (hw : ∀ d ∈ tables_1, d.before a0 Z = true) (ws : List Jvm.Cond) (a1 : Addr) (p1 : Int64) (p2 : Int64) (b1 : Addr) (b2 : Addr) (f : Int → Int64) (g : Int → Int32) (o : Int32) (s0 : Int32) (d : Int64) (h0 : Heap) (n0 : Nat) (Z0 : n0 ≤ h0.size) (g0 : n0 ≤ a1) (g1 : n0 ≤ b1) (g2 : n0 ≤ b2) (ne1 : a1 ≠ b1) (ne2 : a1 ≠ b2) (ne3 : b1 ≠ b2) (E0 : Exa Z h0 a1 "com/example/tynemouth/tynemouth/control/ArrivalWindow") (Fins : Fld Z h0 a1 "com/example/tynemouth/tynemouth/control/ArrivalWindow" "instants" "[J" (.ref b1)) (Fadm : Fld Z h0 a1 "com/example/tynemouth/tynemouth/control/ArrivalWindow" "admitted" "[Z" (.ref b2)) (Fold : Fld Z h0 a1 "com/example/tynemouth/tynemouth/control/ArrivalWindow" "oldest" "I" (.int o)) (Fsiz : Fld Z h0 a1 "com/example/tynemouth/tynemouth/control/ArrivalWindow" "size" "I" (.int s0)) (FadmH : Fld Z h0 a1 "com/example/tynemouth/tynemouth/control/ArrivalWindow" "admittedHeld" "J" (.long d)) (A1 : OwnA Z h0 b1 .long (16 : Int32) (fun i => .long (f i))) (A2 : OwnA Z h0 b2 .boolean (16 : Int32) (fun i => .int (g i))) (ho : 0 ≤ o.toInt ∧ o.toInt < 16) (hs : 0 ≤ s0.toInt ∧ s0.toInt ≤ 15)  :
    MetFree l (⟨"com/example/tynemouth/tynemouth/control/ArrivalWindow", "add", "(JJ)V"⟩ : MethodName) (head1 (Jvm.Cond.code (⟨"com/example/tynemouth/tynemouth/control/ArrivalWindow", "add", "(JJ)V"⟩ : MethodName) prog_21_method_2_code 6 none :: ws) ({ frames := 1, cells := 0, slots := 0, locals := 12 } : Room)) (fun a U => a = #[(.ref a1), (.long p1), (.long p2)] ∧ Z.Warmed39 U.vm ∧ U.heap = h0) (fun _ _ _ _ _ => True) (fun _ U oc U' => ∃ v L, oc = .returned v ∧ Q3 Z a1 p1 p2 b1 b2 f g o s0 d h0 n0 v U'.heap L ∧ FrameEnd U oc U' L ({ frames := 1, cells := 0, slots := 0, locals := 12 } : Room).cells ({ frames := 1, cells := 0, slots := 0, locals := 12 } : Room).slots) := by
  refine MetFree.of_bodySF pn_3 hisR ?_
  intro p e s m args below meth c s₁ Bd hml0 hP hK
  obtain ⟨rfl, hZ, hh⟩ := hP
  have hx := Bd.exec
  have hby := Bd.bytes
  have hlk := BodyLoose.notSynchronized Bd
  have hml : c.maxLocals = 6 := hml0
  have hown : s.vm.findClass "com/example/tynemouth/tynemouth/control/ArrivalWindow" = some m.cls := findClass_of_methodNamed Bd.named
  have hnm := (name_of_methodNamed Bd.named Bd.method).1
  have X0 : Stand p l e ({ frames := 1, cells := 0, slots := 0, locals := 12 } : Room) s m #[(.ref a1), (.long p1), (.long p2)] below meth c s₁ [] 0 0 := Stand.of_body Bd
  have e0 : s₁.heap = h0 := by rw [← hh, Bd.state]; rfl
  have N0 := Fr.nil n0
  show OwnWp p e below s ({ frames := 1, cells := 0, slots := 0, locals := 12 } : Room).cells ({ frames := 1, cells := 0, slots := 0, locals := 12 } : Room).slots (Q3 Z a1 p1 p2 b1 b2 f g o s0 d h0 n0) (s₁.setTop (entryFrame m #[(.ref a1), (.long p1), (.long p2)] 6))
  refine OwnWp.cast (ef_3 m a1 p1 p2) ?_
  show OwnWp p e below s _ _ _ (s₁.setTop (mkF m 0 #[.val (.ref a1), .val (.long p1), .second, .val (.long p2), .second, .unset] []))
  have K0 := Keep.refl h0 [a1, b1, b2]
  have hsel := own_selpriv (y := (⟨"com/example/tynemouth/tynemouth/control/ArrivalWindow", "dropOldest", "()V"⟩ : MethodName)) (z := (⟨"com/example/tynemouth/tynemouth/control/ArrivalWindow", "add", "(JJ)V"⟩ : MethodName)) rfl hown (args := #[(.ref a1), (.long p1), (.long p2)]) (mvT hZ (hw _ (List.mem_of_getElem? (i := 18) rfl))) (Cond.privateMethod_at (mvP hZ (hw _ (List.mem_of_getElem? (i := 43) rfl)) (args := #[]))) (mvT hZ (hw _ (List.mem_of_getElem? (i := 42) rfl))) (by decide)
  have hloop : ∀ (k : Nat) (T135 : State) (h135 : Heap) (L135 : List Loc) (ox : Int32) (sx : Int32) (dx : Int64) (X135 : Stand p l e ({ frames := 1, cells := 0, slots := 0, locals := 12 } : Room) s m #[(.ref a1), (.long p1), (.long p2)] below meth c T135 L135 0 0) (e135 : T135.heap = h135) (N135 : Fr n0 L135) (Z135 : n0 ≤ h135.size) (f136 : Exa Z h135 a1 "com/example/tynemouth/tynemouth/control/ArrivalWindow") (f137 : Fld Z h135 a1 "com/example/tynemouth/tynemouth/control/ArrivalWindow" "instants" "[J" (.ref b1)) (f138 : Fld Z h135 a1 "com/example/tynemouth/tynemouth/control/ArrivalWindow" "admitted" "[Z" (.ref b2)) (f139 : Fld Z h135 a1 "com/example/tynemouth/tynemouth/control/ArrivalWindow" "oldest" "I" (.int ox)) (f140 : Fld Z h135 a1 "com/example/tynemouth/tynemouth/control/ArrivalWindow" "size" "I" (.int sx)) (f141 : Fld Z h135 a1 "com/example/tynemouth/tynemouth/control/ArrivalWindow" "admittedHeld" "J" (.long dx)) (f142 : OwnA Z h135 b1 .long (16 : Int32) (fun i => .long (f i))) (f143 : OwnA Z h135 b2 .boolean (16 : Int32) (fun i => .int (g i))) (K144 : Keep h0 h135 [a1, b1, b2]) (hk : sx.toInt = (k : Int)) (hox : 0 ≤ ox.toInt ∧ ox.toInt < 16) (hsx : sx.toInt ≤ s0.toInt) (hgo : own_cont g p2 s0.toInt.toNat o s0 d k ox sx dx), OwnWp p e below s ({ frames := 1, cells := 0, slots := 0, locals := 12 } : Room).cells ({ frames := 1, cells := 0, slots := 0, locals := 12 } : Room).slots (Q3 Z a1 p1 p2 b1 b2 f g o s0 d h0 n0) (T135.setTop (mkF m 0 #[.val (.ref a1), .val (.long p1), .second, .val (.long p2), .second, .unset] [])) := by
    intro k
    induction k with
    | zero =>
      intro T135 h135 L135 ox sx dx X135 e135 N135 Z135 f136 f137 f138 f139 f140 f141 f142 f143 K144 hk hox hsx hgo
      refine OwnWp.step (U' := T135.setTop (mkF m 1 #[.val (.ref a1), .val (.long p1), .second, .val (.long p2), .second, .unset] [(.ref a1)])) (fun t k => ?_) ?_
      · show Steps p.tables e below (T135.setTop (mkF m 0 #[.val (.ref a1), .val (.long p1), .second, .val (.long p2), .second, .unset] [])) _
        refine XS.aloadN X135.here hx rfl (hb hby d3_0) rfl rfl ?_
        show Steps p.tables e below (T135.setTop (mkF m 1 #[.val (.ref a1), .val (.long p1), .second, .val (.long p2), .second, .unset] [(.ref a1)])) _
        exact k
      obtain ⟨T145, X145, e145, st145⟩ := getF X135 hx hZ hown (host := "") (Or.inl (hw _ (List.mem_of_getElem? (i := 20) rfl))) Via.refl e135 f140 (g := (mkF m 1 #[.val (.ref a1), .val (.long p1), .second, .val (.long p2), .second, .unset] [(.ref a1)])) rfl rfl (hb hby d3_1)
      refine OwnWp.step st145 ?_
      show OwnWp p e below s _ _ _ (T145.setTop (mkF m 4 #[.val (.ref a1), .val (.long p1), .second, .val (.long p2), .second, .unset] [(.int sx)]))
      by_cases c4_146 : (0 : Int32) < sx
      · refine OwnWp.step (U' := T145.setTop (mkF m 7 #[.val (.ref a1), .val (.long p1), .second, .val (.long p2), .second, .unset] [])) (fun t k => ?_) ?_
        · show Steps p.tables e below (T145.setTop (mkF m 4 #[.val (.ref a1), .val (.long p1), .second, .val (.long p2), .second, .unset] [(.int sx)])) _
          refine XS.ifNo X145.here hx rfl (hb hby d3_4) rfl (XT.i0_le_f c4_146) ?_
          exact k
        exact absurd (Int32.lt_iff_toInt_lt.mp c4_146) (by rw [show (0 : Int32).toInt = 0 from rfl]; omega)
      · refine OwnWp.step (U' := T145.setTop (mkF m 24 #[.val (.ref a1), .val (.long p1), .second, .val (.long p2), .second, .unset] [])) (fun t k => ?_) ?_
        · show Steps p.tables e below (T145.setTop (mkF m 4 #[.val (.ref a1), .val (.long p1), .second, .val (.long p2), .second, .unset] [(.int sx)])) _
          refine XS.ifYes X145.here hx rfl (pc0 := 4) (pc' := 24) rfl (hb hby d3_4) rfl (XT.i0_le_t c4_146) (by decide) (by decide) ?_
          exact k
        have hd := own_stop1 hgo c4_146
        refine OwnWp.step (U' := T145.setTop (mkF m 25 #[.val (.ref a1), .val (.long p1), .second, .val (.long p2), .second, .unset] [(.ref a1)])) (fun t k => ?_) ?_
        · show Steps p.tables e below (T145.setTop (mkF m 24 #[.val (.ref a1), .val (.long p1), .second, .val (.long p2), .second, .unset] [])) _
          refine XS.aloadN X145.here hx rfl (hb hby d3_24) rfl rfl ?_
          show Steps p.tables e below (T145.setTop (mkF m 25 #[.val (.ref a1), .val (.long p1), .second, .val (.long p2), .second, .unset] [(.ref a1)])) _
          exact k
        obtain ⟨T147, X147, e147, st147⟩ := getF X145 hx hZ hown (host := "") (Or.inl (hw _ (List.mem_of_getElem? (i := 20) rfl))) Via.refl e145 f140 (g := (mkF m 25 #[.val (.ref a1), .val (.long p1), .second, .val (.long p2), .second, .unset] [(.ref a1)])) rfl rfl (hb hby d3_25)
        refine OwnWp.step st147 ?_
        show OwnWp p e below s _ _ _ (T147.setTop (mkF m 28 #[.val (.ref a1), .val (.long p1), .second, .val (.long p2), .second, .unset] [(.int sx)]))
        refine OwnWp.step (U' := T147.setTop (mkF m 29 #[.val (.ref a1), .val (.long p1), .second, .val (.long p2), .second, .unset] [(.ref a1), (.int sx)])) (fun t k => ?_) ?_
        · show Steps p.tables e below (T147.setTop (mkF m 28 #[.val (.ref a1), .val (.long p1), .second, .val (.long p2), .second, .unset] [(.int sx)])) _
          refine XS.aloadN X147.here hx rfl (hb hby d3_28) rfl rfl ?_
          show Steps p.tables e below (T147.setTop (mkF m 29 #[.val (.ref a1), .val (.long p1), .second, .val (.long p2), .second, .unset] [(.ref a1), (.int sx)])) _
          exact k
        obtain ⟨T148, X148, e148, st148⟩ := getF X147 hx hZ hown (host := "") (Or.inl (hw _ (List.mem_of_getElem? (i := 10) rfl))) Via.refl e147 f137 (g := (mkF m 29 #[.val (.ref a1), .val (.long p1), .second, .val (.long p2), .second, .unset] [(.ref a1), (.int sx)])) rfl rfl (hb hby d3_29)
        refine OwnWp.step st148 ?_
        show OwnWp p e below s _ _ _ (T148.setTop (mkF m 32 #[.val (.ref a1), .val (.long p1), .second, .val (.long p2), .second, .unset] [(.ref b1), (.int sx)]))
        refine OwnWp.step (U' := T148.setTop (mkF m 33 #[.val (.ref a1), .val (.long p1), .second, .val (.long p2), .second, .unset] [(.int (16 : Int32)), (.int sx)])) (fun t k => ?_) ?_
        · show Steps p.tables e below (T148.setTop (mkF m 32 #[.val (.ref a1), .val (.long p1), .second, .val (.long p2), .second, .unset] [(.ref b1), (.int sx)])) _
          refine OwnA.alen X148 hx hZ e148 f142 rfl rfl (hb hby d3_32) ?_
          show Steps p.tables e below (T148.setTop (mkF m 33 #[.val (.ref a1), .val (.long p1), .second, .val (.long p2), .second, .unset] [(.int (16 : Int32)), (.int sx)])) _
          exact k
        have hn16 := own_n16 sx s0 hsx hs
        refine OwnWp.step (U' := T148.setTop (mkF m 41 #[.val (.ref a1), .val (.long p1), .second, .val (.long p2), .second, .unset] [(.ref a1)])) (fun t k => ?_) ?_
        · show Steps p.tables e below (T148.setTop (mkF m 33 #[.val (.ref a1), .val (.long p1), .second, .val (.long p2), .second, .unset] [(.int (16 : Int32)), (.int sx)])) _
          refine XS.icmpYes X148.here hx rfl (pc0 := 33) (pc' := 40) rfl (hb hby d3_33) rfl (XT.ii_ne_t hn16) (by decide) (by decide) ?_
          show Steps p.tables e below (T148.setTop (mkF m 40 #[.val (.ref a1), .val (.long p1), .second, .val (.long p2), .second, .unset] [])) _
          refine XS.aloadN X148.here hx rfl (hb hby d3_40) rfl rfl ?_
          show Steps p.tables e below (T148.setTop (mkF m 41 #[.val (.ref a1), .val (.long p1), .second, .val (.long p2), .second, .unset] [(.ref a1)])) _
          exact k
        obtain ⟨T149, X149, e149, st149⟩ := getF X148 hx hZ hown (host := "") (Or.inl (hw _ (List.mem_of_getElem? (i := 22) rfl))) Via.refl e148 f139 (g := (mkF m 41 #[.val (.ref a1), .val (.long p1), .second, .val (.long p2), .second, .unset] [(.ref a1)])) rfl rfl (hb hby d3_41)
        refine OwnWp.step st149 ?_
        show OwnWp p e below s _ _ _ (T149.setTop (mkF m 44 #[.val (.ref a1), .val (.long p1), .second, .val (.long p2), .second, .unset] [(.int ox)]))
        refine OwnWp.step (U' := T149.setTop (mkF m 45 #[.val (.ref a1), .val (.long p1), .second, .val (.long p2), .second, .unset] [(.ref a1), (.int ox)])) (fun t k => ?_) ?_
        · show Steps p.tables e below (T149.setTop (mkF m 44 #[.val (.ref a1), .val (.long p1), .second, .val (.long p2), .second, .unset] [(.int ox)])) _
          refine XS.aloadN X149.here hx rfl (hb hby d3_44) rfl rfl ?_
          show Steps p.tables e below (T149.setTop (mkF m 45 #[.val (.ref a1), .val (.long p1), .second, .val (.long p2), .second, .unset] [(.ref a1), (.int ox)])) _
          exact k
        obtain ⟨T150, X150, e150, st150⟩ := getF X149 hx hZ hown (host := "") (Or.inl (hw _ (List.mem_of_getElem? (i := 20) rfl))) Via.refl e149 f140 (g := (mkF m 45 #[.val (.ref a1), .val (.long p1), .second, .val (.long p2), .second, .unset] [(.ref a1), (.int ox)])) rfl rfl (hb hby d3_45)
        refine OwnWp.step st150 ?_
        show OwnWp p e below s _ _ _ (T150.setTop (mkF m 48 #[.val (.ref a1), .val (.long p1), .second, .val (.long p2), .second, .unset] [(.int sx), (.int ox)]))
        refine OwnWp.step (U' := T150.setTop (mkF m 50 #[.val (.ref a1), .val (.long p1), .second, .val (.long p2), .second, .unset] [(.ref a1), (.int (ox + sx))])) (fun t k => ?_) ?_
        · show Steps p.tables e below (T150.setTop (mkF m 48 #[.val (.ref a1), .val (.long p1), .second, .val (.long p2), .second, .unset] [(.int sx), (.int ox)])) _
          refine XS.iadd X150.here hx rfl (hb hby d3_48) rfl ?_
          show Steps p.tables e below (T150.setTop (mkF m 49 #[.val (.ref a1), .val (.long p1), .second, .val (.long p2), .second, .unset] [(.int (ox + sx))])) _
          refine XS.aloadN X150.here hx rfl (hb hby d3_49) rfl rfl ?_
          show Steps p.tables e below (T150.setTop (mkF m 50 #[.val (.ref a1), .val (.long p1), .second, .val (.long p2), .second, .unset] [(.ref a1), (.int (ox + sx))])) _
          exact k
        obtain ⟨T151, X151, e151, st151⟩ := getF X150 hx hZ hown (host := "") (Or.inl (hw _ (List.mem_of_getElem? (i := 10) rfl))) Via.refl e150 f137 (g := (mkF m 50 #[.val (.ref a1), .val (.long p1), .second, .val (.long p2), .second, .unset] [(.ref a1), (.int (ox + sx))])) rfl rfl (hb hby d3_50)
        refine OwnWp.step st151 ?_
        show OwnWp p e below s _ _ _ (T151.setTop (mkF m 53 #[.val (.ref a1), .val (.long p1), .second, .val (.long p2), .second, .unset] [(.ref b1), (.int (ox + sx))]))
        obtain ⟨w1, qw1⟩ : ∃ z : Int32, z = ((ox + sx) % (16 : Int32)) := ⟨_, rfl⟩
        refine OwnWp.step (U' := T151.setTop (mkF m 57 #[.val (.ref a1), .val (.long p1), .second, .val (.long p2), .second, .val (.int w1)] [])) (fun t k => ?_) ?_
        · show Steps p.tables e below (T151.setTop (mkF m 53 #[.val (.ref a1), .val (.long p1), .second, .val (.long p2), .second, .unset] [(.ref b1), (.int (ox + sx))])) _
          refine OwnA.alen X151 hx hZ e151 f142 rfl rfl (hb hby d3_53) ?_
          show Steps p.tables e below (T151.setTop (mkF m 54 #[.val (.ref a1), .val (.long p1), .second, .val (.long p2), .second, .unset] [(.int (16 : Int32)), (.int (ox + sx))])) _
          refine iremM X151 hx rfl (hb hby d3_54) rfl (by decide) ?_
          show Steps p.tables e below (T151.setTop (mkF m 55 #[.val (.ref a1), .val (.long p1), .second, .val (.long p2), .second, .unset] [(.int ((ox + sx) % (16 : Int32)))])) _
          refine XS.istore X151.here hx rfl (hb hby d3_55) rfl (l' := #[.val (.ref a1), .val (.long p1), .second, .val (.long p2), .second, .val (.int ((ox + sx) % (16 : Int32)))]) rfl ?_
          show Steps p.tables e below (T151.setTop (mkF m 57 #[.val (.ref a1), .val (.long p1), .second, .val (.long p2), .second, .val (.int ((ox + sx) % (16 : Int32)))] [])) _
          rw [qw1] at k
          exact k
        refine OwnWp.step (U' := T151.setTop (mkF m 58 #[.val (.ref a1), .val (.long p1), .second, .val (.long p2), .second, .val (.int w1)] [(.ref a1)])) (fun t k => ?_) ?_
        · show Steps p.tables e below (T151.setTop (mkF m 57 #[.val (.ref a1), .val (.long p1), .second, .val (.long p2), .second, .val (.int w1)] [])) _
          refine XS.aloadN X151.here hx rfl (hb hby d3_57) rfl rfl ?_
          show Steps p.tables e below (T151.setTop (mkF m 58 #[.val (.ref a1), .val (.long p1), .second, .val (.long p2), .second, .val (.int w1)] [(.ref a1)])) _
          exact k
        obtain ⟨T152, X152, e152, st152⟩ := getF X151 hx hZ hown (host := "") (Or.inl (hw _ (List.mem_of_getElem? (i := 10) rfl))) Via.refl e151 f137 (g := (mkF m 58 #[.val (.ref a1), .val (.long p1), .second, .val (.long p2), .second, .val (.int w1)] [(.ref a1)])) rfl rfl (hb hby d3_58)
        refine OwnWp.step st152 ?_
        show OwnWp p e below s _ _ _ (T152.setTop (mkF m 61 #[.val (.ref a1), .val (.long p1), .second, .val (.long p2), .second, .val (.int w1)] [(.ref b1)]))
        refine OwnWp.step (U' := T152.setTop (mkF m 64 #[.val (.ref a1), .val (.long p1), .second, .val (.long p2), .second, .val (.int w1)] [(.long p1), (.int w1), (.ref b1)])) (fun t k => ?_) ?_
        · show Steps p.tables e below (T152.setTop (mkF m 61 #[.val (.ref a1), .val (.long p1), .second, .val (.long p2), .second, .val (.int w1)] [(.ref b1)])) _
          refine XS.iload X152.here hx rfl (hb hby d3_61) rfl ?_
          show Steps p.tables e below (T152.setTop (mkF m 63 #[.val (.ref a1), .val (.long p1), .second, .val (.long p2), .second, .val (.int w1)] [(.int w1), (.ref b1)])) _
          refine XT.lloadN X152.here hx rfl (hb hby d3_63) rfl ?_
          show Steps p.tables e below (T152.setTop (mkF m 64 #[.val (.ref a1), .val (.long p1), .second, .val (.long p2), .second, .val (.int w1)] [(.long p1), (.int w1), (.ref b1)])) _
          exact k
        obtain ⟨T153, h153, L153, X153, e153, N153, K153, F153, st153⟩ := OwnA.stJ X152 hx hZ e152 N135 g1 f142 (own_ix ox sx hox (by omega) (by omega) w1 qw1).1 (own_ix ox sx hox (by omega) (by omega) w1 qw1).2 (g := (mkF m 64 #[.val (.ref a1), .val (.long p1), .second, .val (.long p2), .second, .val (.int w1)] [(.long p1), (.int w1), (.ref b1)])) rfl rfl (hb hby d3_64)
        refine OwnWp.step st153 ?_
        have Z153 : n0 ≤ h153.size := Nat.le_trans Z135 K153.1
        have f154 := Exa.keep f136 K153
        have f155 := Fld.keep f137 K153 (ninS ne1 nin0)
        have f156 := Fld.keep f138 K153 (ninS ne1 nin0)
        have f157 := Fld.keep f139 K153 (ninS ne1 nin0)
        have f158 := Fld.keep f140 K153 (ninS ne1 nin0)
        have f159 := Fld.keep f141 K153 (ninS ne1 nin0)
        have f160 := OwnA.keep f143 K153 (ninS ne3.symm nin0)
        have F161 : OwnA Z h153 b1 .long (16 : Int32) (fun i => .long ((ownUpd f w1.toInt p1) i)) := F153.congr (fun i _ _ => by simp only [ownUpd]; split <;> rfl)
        have K162 := Keep.trans K144 K153 (allS (Or.inl (List.mem_of_getElem? (i := 1) rfl)) all0)
        show OwnWp p e below s _ _ _ (T153.setTop (mkF m 65 #[.val (.ref a1), .val (.long p1), .second, .val (.long p2), .second, .val (.int w1)] []))
        refine OwnWp.step (U' := T153.setTop (mkF m 66 #[.val (.ref a1), .val (.long p1), .second, .val (.long p2), .second, .val (.int w1)] [(.ref a1)])) (fun t k => ?_) ?_
        · show Steps p.tables e below (T153.setTop (mkF m 65 #[.val (.ref a1), .val (.long p1), .second, .val (.long p2), .second, .val (.int w1)] [])) _
          refine XS.aloadN X153.here hx rfl (hb hby d3_65) rfl rfl ?_
          show Steps p.tables e below (T153.setTop (mkF m 66 #[.val (.ref a1), .val (.long p1), .second, .val (.long p2), .second, .val (.int w1)] [(.ref a1)])) _
          exact k
        obtain ⟨T163, X163, e163, st163⟩ := getF X153 hx hZ hown (host := "") (Or.inl (hw _ (List.mem_of_getElem? (i := 13) rfl))) Via.refl e153 f156 (g := (mkF m 66 #[.val (.ref a1), .val (.long p1), .second, .val (.long p2), .second, .val (.int w1)] [(.ref a1)])) rfl rfl (hb hby d3_66)
        refine OwnWp.step st163 ?_
        show OwnWp p e below s _ _ _ (T163.setTop (mkF m 69 #[.val (.ref a1), .val (.long p1), .second, .val (.long p2), .second, .val (.int w1)] [(.ref b2)]))
        refine OwnWp.step (U' := T163.setTop (mkF m 72 #[.val (.ref a1), .val (.long p1), .second, .val (.long p2), .second, .val (.int w1)] [(.int (0 : Int32)), (.int w1), (.ref b2)])) (fun t k => ?_) ?_
        · show Steps p.tables e below (T163.setTop (mkF m 69 #[.val (.ref a1), .val (.long p1), .second, .val (.long p2), .second, .val (.int w1)] [(.ref b2)])) _
          refine XS.iload X163.here hx rfl (hb hby d3_69) rfl ?_
          show Steps p.tables e below (T163.setTop (mkF m 71 #[.val (.ref a1), .val (.long p1), .second, .val (.long p2), .second, .val (.int w1)] [(.int w1), (.ref b2)])) _
          refine XT.iconstV X163.here hx rfl (0 : Int32) (hb hby d3_71) rfl ?_
          show Steps p.tables e below (T163.setTop (mkF m 72 #[.val (.ref a1), .val (.long p1), .second, .val (.long p2), .second, .val (.int w1)] [(.int (0 : Int32)), (.int w1), (.ref b2)])) _
          exact k
        obtain ⟨T164, h164, L164, X164, e164, N164, K164, F164, st164⟩ := OwnA.stZ X163 hx hZ e163 N153 g2 f160 (own_ix ox sx hox (by omega) (by omega) w1 qw1).1 (own_ix ox sx hox (by omega) (by omega) w1 qw1).2 (g := (mkF m 72 #[.val (.ref a1), .val (.long p1), .second, .val (.long p2), .second, .val (.int w1)] [(.int (0 : Int32)), (.int w1), (.ref b2)])) rfl rfl (hb hby d3_72)
        refine OwnWp.step st164 ?_
        have Z164 : n0 ≤ h164.size := Nat.le_trans Z153 K164.1
        have f165 := Exa.keep f154 K164
        have f166 := Fld.keep f155 K164 (ninS ne2 nin0)
        have f167 := Fld.keep f156 K164 (ninS ne2 nin0)
        have f168 := Fld.keep f157 K164 (ninS ne2 nin0)
        have f169 := Fld.keep f158 K164 (ninS ne2 nin0)
        have f170 := Fld.keep f159 K164 (ninS ne2 nin0)
        have f171 := OwnA.keep F161 K164 (ninS ne3 nin0)
        have F172 : OwnA Z h164 b2 .boolean (16 : Int32) (fun i => .int ((ownUpd g w1.toInt (nar .boolean (0 : Int32))) i)) := F164.congr (fun i _ _ => by simp only [ownUpd]; split <;> rfl)
        have K173 := Keep.trans K162 K164 (allS (Or.inl (List.mem_of_getElem? (i := 2) rfl)) all0)
        show OwnWp p e below s _ _ _ (T164.setTop (mkF m 73 #[.val (.ref a1), .val (.long p1), .second, .val (.long p2), .second, .val (.int w1)] []))
        refine OwnWp.step (U' := T164.setTop (mkF m 75 #[.val (.ref a1), .val (.long p1), .second, .val (.long p2), .second, .val (.int w1)] [(.ref a1), (.ref a1)])) (fun t k => ?_) ?_
        · show Steps p.tables e below (T164.setTop (mkF m 73 #[.val (.ref a1), .val (.long p1), .second, .val (.long p2), .second, .val (.int w1)] [])) _
          refine XS.aloadN X164.here hx rfl (hb hby d3_73) rfl rfl ?_
          show Steps p.tables e below (T164.setTop (mkF m 74 #[.val (.ref a1), .val (.long p1), .second, .val (.long p2), .second, .val (.int w1)] [(.ref a1)])) _
          refine XS.dup X164.here hx rfl (hb hby d3_74) rfl rfl ?_
          show Steps p.tables e below (T164.setTop (mkF m 75 #[.val (.ref a1), .val (.long p1), .second, .val (.long p2), .second, .val (.int w1)] [(.ref a1), (.ref a1)])) _
          exact k
        obtain ⟨T174, X174, e174, st174⟩ := getF X164 hx hZ hown (host := "") (Or.inl (hw _ (List.mem_of_getElem? (i := 20) rfl))) Via.refl e164 f169 (g := (mkF m 75 #[.val (.ref a1), .val (.long p1), .second, .val (.long p2), .second, .val (.int w1)] [(.ref a1), (.ref a1)])) rfl rfl (hb hby d3_75)
        refine OwnWp.step st174 ?_
        show OwnWp p e below s _ _ _ (T174.setTop (mkF m 78 #[.val (.ref a1), .val (.long p1), .second, .val (.long p2), .second, .val (.int w1)] [(.int sx), (.ref a1)]))
        refine OwnWp.step (U' := T174.setTop (mkF m 80 #[.val (.ref a1), .val (.long p1), .second, .val (.long p2), .second, .val (.int w1)] [(.int (sx + (1 : Int32))), (.ref a1)])) (fun t k => ?_) ?_
        · show Steps p.tables e below (T174.setTop (mkF m 78 #[.val (.ref a1), .val (.long p1), .second, .val (.long p2), .second, .val (.int w1)] [(.int sx), (.ref a1)])) _
          refine XT.iconstV X174.here hx rfl (1 : Int32) (hb hby d3_78) rfl ?_
          show Steps p.tables e below (T174.setTop (mkF m 79 #[.val (.ref a1), .val (.long p1), .second, .val (.long p2), .second, .val (.int w1)] [(.int (1 : Int32)), (.int sx), (.ref a1)])) _
          refine XS.iadd X174.here hx rfl (hb hby d3_79) rfl ?_
          show Steps p.tables e below (T174.setTop (mkF m 80 #[.val (.ref a1), .val (.long p1), .second, .val (.long p2), .second, .val (.int w1)] [(.int (sx + (1 : Int32))), (.ref a1)])) _
          exact k
        obtain ⟨T175, h175, X175, e175, W175, st175⟩ := putF X174 hx hZ hown (host := "") (Or.inl (hw _ (List.mem_of_getElem? (i := 20) rfl))) Via.refl e174 f169 f165 (Or.inl (hw _ (List.mem_of_getElem? (i := 21) rfl))) (hw _ (List.mem_of_getElem? (i := 1) rfl)) (ty := .int) (by decide) rfl rfl (g := (mkF m 80 #[.val (.ref a1), .val (.long p1), .second, .val (.long p2), .second, .val (.int w1)] [(.int (sx + (1 : Int32))), (.ref a1)])) rfl rfl (hb hby d3_80)
        have N175 := own_frs (sl := Jvm.RoadKit.slotOf Z "com/example/tynemouth/tynemouth/control/ArrivalWindow" "size" "I") N164 g0
        have Z175 : n0 ≤ h175.size := by rw [W175.size]; exact Z164
        refine OwnWp.step st175 ?_
        have f176 := Exa.wr W175 f165
        have f177 := Fld.other W175 f166 (Or.inr (slot_ne (C := "com/example/tynemouth/tynemouth/control/ArrivalWindow") (Or.inl (hw _ (List.mem_of_getElem? (i := 11) rfl))) (Or.inl (hw _ (List.mem_of_getElem? (i := 21) rfl))) (by decide) (t := (.array .long)) (t' := .int) (by decide) (by decide)))
        have f178 := Fld.other W175 f167 (Or.inr (slot_ne (C := "com/example/tynemouth/tynemouth/control/ArrivalWindow") (Or.inl (hw _ (List.mem_of_getElem? (i := 14) rfl))) (Or.inl (hw _ (List.mem_of_getElem? (i := 21) rfl))) (by decide) (t := (.array .boolean)) (t' := .int) (by decide) (by decide)))
        have f179 := Fld.other W175 f168 (Or.inr (slot_ne (C := "com/example/tynemouth/tynemouth/control/ArrivalWindow") (Or.inl (hw _ (List.mem_of_getElem? (i := 23) rfl))) (Or.inl (hw _ (List.mem_of_getElem? (i := 21) rfl))) (by decide) (t := .int) (t' := .int) (by decide) (by decide)))
        have f180 := Fld.same W175 f169
        have f181 := Fld.other W175 f170 (Or.inr (slot_ne (C := "com/example/tynemouth/tynemouth/control/ArrivalWindow") (Or.inl (hw _ (List.mem_of_getElem? (i := 40) rfl))) (Or.inl (hw _ (List.mem_of_getElem? (i := 21) rfl))) (by decide) (t := .long) (t' := .int) (by decide) (by decide)))
        have f182 := OwnA.other f171 W175 ne1.symm
        have f183 := OwnA.other F172 W175 ne2.symm
        have K184 := Keep.wr K173 W175 (Or.inl (List.mem_of_getElem? (i := 0) rfl))
        show OwnWp p e below s _ _ _ (T175.setTop (mkF m 83 #[.val (.ref a1), .val (.long p1), .second, .val (.long p2), .second, .val (.int w1)] []))
        refine OwnWp.retV X175 hx hlk Bd.returns (hb hby d3_83) (by decide) (by decide) ?_
        rw [e175]
        exact ⟨rfl, N175, K184, ox, sx, dx, _, hd, hox, ⟨by omega, hsx⟩, f177, f178, f179, f180, f181, f182, by rw [← qw1]; exact f183⟩
    | succ k ih =>
      intro T135 h135 L135 ox sx dx X135 e135 N135 Z135 f136 f137 f138 f139 f140 f141 f142 f143 K144 hk hox hsx hgo
      refine OwnWp.step (U' := T135.setTop (mkF m 1 #[.val (.ref a1), .val (.long p1), .second, .val (.long p2), .second, .unset] [(.ref a1)])) (fun t k => ?_) ?_
      · show Steps p.tables e below (T135.setTop (mkF m 0 #[.val (.ref a1), .val (.long p1), .second, .val (.long p2), .second, .unset] [])) _
        refine XS.aloadN X135.here hx rfl (hb hby d3_0) rfl rfl ?_
        show Steps p.tables e below (T135.setTop (mkF m 1 #[.val (.ref a1), .val (.long p1), .second, .val (.long p2), .second, .unset] [(.ref a1)])) _
        exact k
      obtain ⟨T185, X185, e185, st185⟩ := getF X135 hx hZ hown (host := "") (Or.inl (hw _ (List.mem_of_getElem? (i := 20) rfl))) Via.refl e135 f140 (g := (mkF m 1 #[.val (.ref a1), .val (.long p1), .second, .val (.long p2), .second, .unset] [(.ref a1)])) rfl rfl (hb hby d3_1)
      refine OwnWp.step st185 ?_
      show OwnWp p e below s _ _ _ (T185.setTop (mkF m 4 #[.val (.ref a1), .val (.long p1), .second, .val (.long p2), .second, .unset] [(.int sx)]))
      by_cases c4_186 : (0 : Int32) < sx
      · refine OwnWp.step (U' := T185.setTop (mkF m 7 #[.val (.ref a1), .val (.long p1), .second, .val (.long p2), .second, .unset] [])) (fun t k => ?_) ?_
        · show Steps p.tables e below (T185.setTop (mkF m 4 #[.val (.ref a1), .val (.long p1), .second, .val (.long p2), .second, .unset] [(.int sx)])) _
          refine XS.ifNo X185.here hx rfl (hb hby d3_4) rfl (XT.i0_le_f c4_186) ?_
          exact k
        refine OwnWp.step (U' := T185.setTop (mkF m 8 #[.val (.ref a1), .val (.long p1), .second, .val (.long p2), .second, .unset] [(.ref a1)])) (fun t k => ?_) ?_
        · show Steps p.tables e below (T185.setTop (mkF m 7 #[.val (.ref a1), .val (.long p1), .second, .val (.long p2), .second, .unset] [])) _
          refine XS.aloadN X185.here hx rfl (hb hby d3_7) rfl rfl ?_
          show Steps p.tables e below (T185.setTop (mkF m 8 #[.val (.ref a1), .val (.long p1), .second, .val (.long p2), .second, .unset] [(.ref a1)])) _
          exact k
        obtain ⟨T187, X187, e187, st187⟩ := getF X185 hx hZ hown (host := "") (Or.inl (hw _ (List.mem_of_getElem? (i := 20) rfl))) Via.refl e185 f140 (g := (mkF m 8 #[.val (.ref a1), .val (.long p1), .second, .val (.long p2), .second, .unset] [(.ref a1)])) rfl rfl (hb hby d3_8)
        refine OwnWp.step st187 ?_
        show OwnWp p e below s _ _ _ (T187.setTop (mkF m 11 #[.val (.ref a1), .val (.long p1), .second, .val (.long p2), .second, .unset] [(.int sx)]))
        refine OwnWp.step (U' := T187.setTop (mkF m 14 #[.val (.ref a1), .val (.long p1), .second, .val (.long p2), .second, .unset] [(.int (XT.cmpL sx.toInt64 p2))])) (fun t k => ?_) ?_
        · show Steps p.tables e below (T187.setTop (mkF m 11 #[.val (.ref a1), .val (.long p1), .second, .val (.long p2), .second, .unset] [(.int sx)])) _
          refine XT.i2l X187.here hx rfl (hb hby d3_11) rfl ?_
          show Steps p.tables e below (T187.setTop (mkF m 12 #[.val (.ref a1), .val (.long p1), .second, .val (.long p2), .second, .unset] [(.long sx.toInt64)])) _
          refine XT.lloadN X187.here hx rfl (hb hby d3_12) rfl ?_
          show Steps p.tables e below (T187.setTop (mkF m 13 #[.val (.ref a1), .val (.long p1), .second, .val (.long p2), .second, .unset] [(.long p2), (.long sx.toInt64)])) _
          refine XT.lcmp X187.here hx rfl (hb hby d3_13) rfl ?_
          show Steps p.tables e below (T187.setTop (mkF m 14 #[.val (.ref a1), .val (.long p1), .second, .val (.long p2), .second, .unset] [(.int (XT.cmpL sx.toInt64 p2))])) _
          exact k
        by_cases c14_188 : sx.toInt64 < p2
        · refine OwnWp.step (U' := T187.setTop (mkF m 24 #[.val (.ref a1), .val (.long p1), .second, .val (.long p2), .second, .unset] [])) (fun t k => ?_) ?_
          · show Steps p.tables e below (T187.setTop (mkF m 14 #[.val (.ref a1), .val (.long p1), .second, .val (.long p2), .second, .unset] [(.int (XT.cmpL sx.toInt64 p2))])) _
            refine XS.ifYes X187.here hx rfl (pc0 := 14) (pc' := 24) rfl (hb hby d3_14) rfl (XT.ll_lt_t c14_188) (by decide) (by decide) ?_
            exact k
          have hd := own_stop2 hgo c14_188
          refine OwnWp.step (U' := T187.setTop (mkF m 25 #[.val (.ref a1), .val (.long p1), .second, .val (.long p2), .second, .unset] [(.ref a1)])) (fun t k => ?_) ?_
          · show Steps p.tables e below (T187.setTop (mkF m 24 #[.val (.ref a1), .val (.long p1), .second, .val (.long p2), .second, .unset] [])) _
            refine XS.aloadN X187.here hx rfl (hb hby d3_24) rfl rfl ?_
            show Steps p.tables e below (T187.setTop (mkF m 25 #[.val (.ref a1), .val (.long p1), .second, .val (.long p2), .second, .unset] [(.ref a1)])) _
            exact k
          obtain ⟨T189, X189, e189, st189⟩ := getF X187 hx hZ hown (host := "") (Or.inl (hw _ (List.mem_of_getElem? (i := 20) rfl))) Via.refl e187 f140 (g := (mkF m 25 #[.val (.ref a1), .val (.long p1), .second, .val (.long p2), .second, .unset] [(.ref a1)])) rfl rfl (hb hby d3_25)
          refine OwnWp.step st189 ?_
          show OwnWp p e below s _ _ _ (T189.setTop (mkF m 28 #[.val (.ref a1), .val (.long p1), .second, .val (.long p2), .second, .unset] [(.int sx)]))
          refine OwnWp.step (U' := T189.setTop (mkF m 29 #[.val (.ref a1), .val (.long p1), .second, .val (.long p2), .second, .unset] [(.ref a1), (.int sx)])) (fun t k => ?_) ?_
          · show Steps p.tables e below (T189.setTop (mkF m 28 #[.val (.ref a1), .val (.long p1), .second, .val (.long p2), .second, .unset] [(.int sx)])) _
            refine XS.aloadN X189.here hx rfl (hb hby d3_28) rfl rfl ?_
            show Steps p.tables e below (T189.setTop (mkF m 29 #[.val (.ref a1), .val (.long p1), .second, .val (.long p2), .second, .unset] [(.ref a1), (.int sx)])) _
            exact k
          obtain ⟨T190, X190, e190, st190⟩ := getF X189 hx hZ hown (host := "") (Or.inl (hw _ (List.mem_of_getElem? (i := 10) rfl))) Via.refl e189 f137 (g := (mkF m 29 #[.val (.ref a1), .val (.long p1), .second, .val (.long p2), .second, .unset] [(.ref a1), (.int sx)])) rfl rfl (hb hby d3_29)
          refine OwnWp.step st190 ?_
          show OwnWp p e below s _ _ _ (T190.setTop (mkF m 32 #[.val (.ref a1), .val (.long p1), .second, .val (.long p2), .second, .unset] [(.ref b1), (.int sx)]))
          refine OwnWp.step (U' := T190.setTop (mkF m 33 #[.val (.ref a1), .val (.long p1), .second, .val (.long p2), .second, .unset] [(.int (16 : Int32)), (.int sx)])) (fun t k => ?_) ?_
          · show Steps p.tables e below (T190.setTop (mkF m 32 #[.val (.ref a1), .val (.long p1), .second, .val (.long p2), .second, .unset] [(.ref b1), (.int sx)])) _
            refine OwnA.alen X190 hx hZ e190 f142 rfl rfl (hb hby d3_32) ?_
            show Steps p.tables e below (T190.setTop (mkF m 33 #[.val (.ref a1), .val (.long p1), .second, .val (.long p2), .second, .unset] [(.int (16 : Int32)), (.int sx)])) _
            exact k
          have hn16 := own_n16 sx s0 hsx hs
          refine OwnWp.step (U' := T190.setTop (mkF m 41 #[.val (.ref a1), .val (.long p1), .second, .val (.long p2), .second, .unset] [(.ref a1)])) (fun t k => ?_) ?_
          · show Steps p.tables e below (T190.setTop (mkF m 33 #[.val (.ref a1), .val (.long p1), .second, .val (.long p2), .second, .unset] [(.int (16 : Int32)), (.int sx)])) _
            refine XS.icmpYes X190.here hx rfl (pc0 := 33) (pc' := 40) rfl (hb hby d3_33) rfl (XT.ii_ne_t hn16) (by decide) (by decide) ?_
            show Steps p.tables e below (T190.setTop (mkF m 40 #[.val (.ref a1), .val (.long p1), .second, .val (.long p2), .second, .unset] [])) _
            refine XS.aloadN X190.here hx rfl (hb hby d3_40) rfl rfl ?_
            show Steps p.tables e below (T190.setTop (mkF m 41 #[.val (.ref a1), .val (.long p1), .second, .val (.long p2), .second, .unset] [(.ref a1)])) _
            exact k
          obtain ⟨T191, X191, e191, st191⟩ := getF X190 hx hZ hown (host := "") (Or.inl (hw _ (List.mem_of_getElem? (i := 22) rfl))) Via.refl e190 f139 (g := (mkF m 41 #[.val (.ref a1), .val (.long p1), .second, .val (.long p2), .second, .unset] [(.ref a1)])) rfl rfl (hb hby d3_41)
          refine OwnWp.step st191 ?_
          show OwnWp p e below s _ _ _ (T191.setTop (mkF m 44 #[.val (.ref a1), .val (.long p1), .second, .val (.long p2), .second, .unset] [(.int ox)]))
          refine OwnWp.step (U' := T191.setTop (mkF m 45 #[.val (.ref a1), .val (.long p1), .second, .val (.long p2), .second, .unset] [(.ref a1), (.int ox)])) (fun t k => ?_) ?_
          · show Steps p.tables e below (T191.setTop (mkF m 44 #[.val (.ref a1), .val (.long p1), .second, .val (.long p2), .second, .unset] [(.int ox)])) _
            refine XS.aloadN X191.here hx rfl (hb hby d3_44) rfl rfl ?_
            show Steps p.tables e below (T191.setTop (mkF m 45 #[.val (.ref a1), .val (.long p1), .second, .val (.long p2), .second, .unset] [(.ref a1), (.int ox)])) _
            exact k
          obtain ⟨T192, X192, e192, st192⟩ := getF X191 hx hZ hown (host := "") (Or.inl (hw _ (List.mem_of_getElem? (i := 20) rfl))) Via.refl e191 f140 (g := (mkF m 45 #[.val (.ref a1), .val (.long p1), .second, .val (.long p2), .second, .unset] [(.ref a1), (.int ox)])) rfl rfl (hb hby d3_45)
          refine OwnWp.step st192 ?_
          show OwnWp p e below s _ _ _ (T192.setTop (mkF m 48 #[.val (.ref a1), .val (.long p1), .second, .val (.long p2), .second, .unset] [(.int sx), (.int ox)]))
          refine OwnWp.step (U' := T192.setTop (mkF m 50 #[.val (.ref a1), .val (.long p1), .second, .val (.long p2), .second, .unset] [(.ref a1), (.int (ox + sx))])) (fun t k => ?_) ?_
          · show Steps p.tables e below (T192.setTop (mkF m 48 #[.val (.ref a1), .val (.long p1), .second, .val (.long p2), .second, .unset] [(.int sx), (.int ox)])) _
            refine XS.iadd X192.here hx rfl (hb hby d3_48) rfl ?_
            show Steps p.tables e below (T192.setTop (mkF m 49 #[.val (.ref a1), .val (.long p1), .second, .val (.long p2), .second, .unset] [(.int (ox + sx))])) _
            refine XS.aloadN X192.here hx rfl (hb hby d3_49) rfl rfl ?_
            show Steps p.tables e below (T192.setTop (mkF m 50 #[.val (.ref a1), .val (.long p1), .second, .val (.long p2), .second, .unset] [(.ref a1), (.int (ox + sx))])) _
            exact k
          obtain ⟨T193, X193, e193, st193⟩ := getF X192 hx hZ hown (host := "") (Or.inl (hw _ (List.mem_of_getElem? (i := 10) rfl))) Via.refl e192 f137 (g := (mkF m 50 #[.val (.ref a1), .val (.long p1), .second, .val (.long p2), .second, .unset] [(.ref a1), (.int (ox + sx))])) rfl rfl (hb hby d3_50)
          refine OwnWp.step st193 ?_
          show OwnWp p e below s _ _ _ (T193.setTop (mkF m 53 #[.val (.ref a1), .val (.long p1), .second, .val (.long p2), .second, .unset] [(.ref b1), (.int (ox + sx))]))
          obtain ⟨w1, qw1⟩ : ∃ z : Int32, z = ((ox + sx) % (16 : Int32)) := ⟨_, rfl⟩
          refine OwnWp.step (U' := T193.setTop (mkF m 57 #[.val (.ref a1), .val (.long p1), .second, .val (.long p2), .second, .val (.int w1)] [])) (fun t k => ?_) ?_
          · show Steps p.tables e below (T193.setTop (mkF m 53 #[.val (.ref a1), .val (.long p1), .second, .val (.long p2), .second, .unset] [(.ref b1), (.int (ox + sx))])) _
            refine OwnA.alen X193 hx hZ e193 f142 rfl rfl (hb hby d3_53) ?_
            show Steps p.tables e below (T193.setTop (mkF m 54 #[.val (.ref a1), .val (.long p1), .second, .val (.long p2), .second, .unset] [(.int (16 : Int32)), (.int (ox + sx))])) _
            refine iremM X193 hx rfl (hb hby d3_54) rfl (by decide) ?_
            show Steps p.tables e below (T193.setTop (mkF m 55 #[.val (.ref a1), .val (.long p1), .second, .val (.long p2), .second, .unset] [(.int ((ox + sx) % (16 : Int32)))])) _
            refine XS.istore X193.here hx rfl (hb hby d3_55) rfl (l' := #[.val (.ref a1), .val (.long p1), .second, .val (.long p2), .second, .val (.int ((ox + sx) % (16 : Int32)))]) rfl ?_
            show Steps p.tables e below (T193.setTop (mkF m 57 #[.val (.ref a1), .val (.long p1), .second, .val (.long p2), .second, .val (.int ((ox + sx) % (16 : Int32)))] [])) _
            rw [qw1] at k
            exact k
          refine OwnWp.step (U' := T193.setTop (mkF m 58 #[.val (.ref a1), .val (.long p1), .second, .val (.long p2), .second, .val (.int w1)] [(.ref a1)])) (fun t k => ?_) ?_
          · show Steps p.tables e below (T193.setTop (mkF m 57 #[.val (.ref a1), .val (.long p1), .second, .val (.long p2), .second, .val (.int w1)] [])) _
            refine XS.aloadN X193.here hx rfl (hb hby d3_57) rfl rfl ?_
            show Steps p.tables e below (T193.setTop (mkF m 58 #[.val (.ref a1), .val (.long p1), .second, .val (.long p2), .second, .val (.int w1)] [(.ref a1)])) _
            exact k
          obtain ⟨T194, X194, e194, st194⟩ := getF X193 hx hZ hown (host := "") (Or.inl (hw _ (List.mem_of_getElem? (i := 10) rfl))) Via.refl e193 f137 (g := (mkF m 58 #[.val (.ref a1), .val (.long p1), .second, .val (.long p2), .second, .val (.int w1)] [(.ref a1)])) rfl rfl (hb hby d3_58)
          refine OwnWp.step st194 ?_
          show OwnWp p e below s _ _ _ (T194.setTop (mkF m 61 #[.val (.ref a1), .val (.long p1), .second, .val (.long p2), .second, .val (.int w1)] [(.ref b1)]))
          refine OwnWp.step (U' := T194.setTop (mkF m 64 #[.val (.ref a1), .val (.long p1), .second, .val (.long p2), .second, .val (.int w1)] [(.long p1), (.int w1), (.ref b1)])) (fun t k => ?_) ?_
          · show Steps p.tables e below (T194.setTop (mkF m 61 #[.val (.ref a1), .val (.long p1), .second, .val (.long p2), .second, .val (.int w1)] [(.ref b1)])) _
            refine XS.iload X194.here hx rfl (hb hby d3_61) rfl ?_
            show Steps p.tables e below (T194.setTop (mkF m 63 #[.val (.ref a1), .val (.long p1), .second, .val (.long p2), .second, .val (.int w1)] [(.int w1), (.ref b1)])) _
            refine XT.lloadN X194.here hx rfl (hb hby d3_63) rfl ?_
            show Steps p.tables e below (T194.setTop (mkF m 64 #[.val (.ref a1), .val (.long p1), .second, .val (.long p2), .second, .val (.int w1)] [(.long p1), (.int w1), (.ref b1)])) _
            exact k
          obtain ⟨T195, h195, L195, X195, e195, N195, K195, F195, st195⟩ := OwnA.stJ X194 hx hZ e194 N135 g1 f142 (own_ix ox sx hox (by omega) (by omega) w1 qw1).1 (own_ix ox sx hox (by omega) (by omega) w1 qw1).2 (g := (mkF m 64 #[.val (.ref a1), .val (.long p1), .second, .val (.long p2), .second, .val (.int w1)] [(.long p1), (.int w1), (.ref b1)])) rfl rfl (hb hby d3_64)
          refine OwnWp.step st195 ?_
          have Z195 : n0 ≤ h195.size := Nat.le_trans Z135 K195.1
          have f196 := Exa.keep f136 K195
          have f197 := Fld.keep f137 K195 (ninS ne1 nin0)
          have f198 := Fld.keep f138 K195 (ninS ne1 nin0)
          have f199 := Fld.keep f139 K195 (ninS ne1 nin0)
          have f200 := Fld.keep f140 K195 (ninS ne1 nin0)
          have f201 := Fld.keep f141 K195 (ninS ne1 nin0)
          have f202 := OwnA.keep f143 K195 (ninS ne3.symm nin0)
          have F203 : OwnA Z h195 b1 .long (16 : Int32) (fun i => .long ((ownUpd f w1.toInt p1) i)) := F195.congr (fun i _ _ => by simp only [ownUpd]; split <;> rfl)
          have K204 := Keep.trans K144 K195 (allS (Or.inl (List.mem_of_getElem? (i := 1) rfl)) all0)
          show OwnWp p e below s _ _ _ (T195.setTop (mkF m 65 #[.val (.ref a1), .val (.long p1), .second, .val (.long p2), .second, .val (.int w1)] []))
          refine OwnWp.step (U' := T195.setTop (mkF m 66 #[.val (.ref a1), .val (.long p1), .second, .val (.long p2), .second, .val (.int w1)] [(.ref a1)])) (fun t k => ?_) ?_
          · show Steps p.tables e below (T195.setTop (mkF m 65 #[.val (.ref a1), .val (.long p1), .second, .val (.long p2), .second, .val (.int w1)] [])) _
            refine XS.aloadN X195.here hx rfl (hb hby d3_65) rfl rfl ?_
            show Steps p.tables e below (T195.setTop (mkF m 66 #[.val (.ref a1), .val (.long p1), .second, .val (.long p2), .second, .val (.int w1)] [(.ref a1)])) _
            exact k
          obtain ⟨T205, X205, e205, st205⟩ := getF X195 hx hZ hown (host := "") (Or.inl (hw _ (List.mem_of_getElem? (i := 13) rfl))) Via.refl e195 f198 (g := (mkF m 66 #[.val (.ref a1), .val (.long p1), .second, .val (.long p2), .second, .val (.int w1)] [(.ref a1)])) rfl rfl (hb hby d3_66)
          refine OwnWp.step st205 ?_
          show OwnWp p e below s _ _ _ (T205.setTop (mkF m 69 #[.val (.ref a1), .val (.long p1), .second, .val (.long p2), .second, .val (.int w1)] [(.ref b2)]))
          refine OwnWp.step (U' := T205.setTop (mkF m 72 #[.val (.ref a1), .val (.long p1), .second, .val (.long p2), .second, .val (.int w1)] [(.int (0 : Int32)), (.int w1), (.ref b2)])) (fun t k => ?_) ?_
          · show Steps p.tables e below (T205.setTop (mkF m 69 #[.val (.ref a1), .val (.long p1), .second, .val (.long p2), .second, .val (.int w1)] [(.ref b2)])) _
            refine XS.iload X205.here hx rfl (hb hby d3_69) rfl ?_
            show Steps p.tables e below (T205.setTop (mkF m 71 #[.val (.ref a1), .val (.long p1), .second, .val (.long p2), .second, .val (.int w1)] [(.int w1), (.ref b2)])) _
            refine XT.iconstV X205.here hx rfl (0 : Int32) (hb hby d3_71) rfl ?_
            show Steps p.tables e below (T205.setTop (mkF m 72 #[.val (.ref a1), .val (.long p1), .second, .val (.long p2), .second, .val (.int w1)] [(.int (0 : Int32)), (.int w1), (.ref b2)])) _
            exact k
          obtain ⟨T206, h206, L206, X206, e206, N206, K206, F206, st206⟩ := OwnA.stZ X205 hx hZ e205 N195 g2 f202 (own_ix ox sx hox (by omega) (by omega) w1 qw1).1 (own_ix ox sx hox (by omega) (by omega) w1 qw1).2 (g := (mkF m 72 #[.val (.ref a1), .val (.long p1), .second, .val (.long p2), .second, .val (.int w1)] [(.int (0 : Int32)), (.int w1), (.ref b2)])) rfl rfl (hb hby d3_72)
          refine OwnWp.step st206 ?_
          have Z206 : n0 ≤ h206.size := Nat.le_trans Z195 K206.1
          have f207 := Exa.keep f196 K206
          have f208 := Fld.keep f197 K206 (ninS ne2 nin0)
          have f209 := Fld.keep f198 K206 (ninS ne2 nin0)
          have f210 := Fld.keep f199 K206 (ninS ne2 nin0)
          have f211 := Fld.keep f200 K206 (ninS ne2 nin0)
          have f212 := Fld.keep f201 K206 (ninS ne2 nin0)
          have f213 := OwnA.keep F203 K206 (ninS ne3 nin0)
          have F214 : OwnA Z h206 b2 .boolean (16 : Int32) (fun i => .int ((ownUpd g w1.toInt (nar .boolean (0 : Int32))) i)) := F206.congr (fun i _ _ => by simp only [ownUpd]; split <;> rfl)
          have K215 := Keep.trans K204 K206 (allS (Or.inl (List.mem_of_getElem? (i := 2) rfl)) all0)
          show OwnWp p e below s _ _ _ (T206.setTop (mkF m 73 #[.val (.ref a1), .val (.long p1), .second, .val (.long p2), .second, .val (.int w1)] []))
          refine OwnWp.step (U' := T206.setTop (mkF m 75 #[.val (.ref a1), .val (.long p1), .second, .val (.long p2), .second, .val (.int w1)] [(.ref a1), (.ref a1)])) (fun t k => ?_) ?_
          · show Steps p.tables e below (T206.setTop (mkF m 73 #[.val (.ref a1), .val (.long p1), .second, .val (.long p2), .second, .val (.int w1)] [])) _
            refine XS.aloadN X206.here hx rfl (hb hby d3_73) rfl rfl ?_
            show Steps p.tables e below (T206.setTop (mkF m 74 #[.val (.ref a1), .val (.long p1), .second, .val (.long p2), .second, .val (.int w1)] [(.ref a1)])) _
            refine XS.dup X206.here hx rfl (hb hby d3_74) rfl rfl ?_
            show Steps p.tables e below (T206.setTop (mkF m 75 #[.val (.ref a1), .val (.long p1), .second, .val (.long p2), .second, .val (.int w1)] [(.ref a1), (.ref a1)])) _
            exact k
          obtain ⟨T216, X216, e216, st216⟩ := getF X206 hx hZ hown (host := "") (Or.inl (hw _ (List.mem_of_getElem? (i := 20) rfl))) Via.refl e206 f211 (g := (mkF m 75 #[.val (.ref a1), .val (.long p1), .second, .val (.long p2), .second, .val (.int w1)] [(.ref a1), (.ref a1)])) rfl rfl (hb hby d3_75)
          refine OwnWp.step st216 ?_
          show OwnWp p e below s _ _ _ (T216.setTop (mkF m 78 #[.val (.ref a1), .val (.long p1), .second, .val (.long p2), .second, .val (.int w1)] [(.int sx), (.ref a1)]))
          refine OwnWp.step (U' := T216.setTop (mkF m 80 #[.val (.ref a1), .val (.long p1), .second, .val (.long p2), .second, .val (.int w1)] [(.int (sx + (1 : Int32))), (.ref a1)])) (fun t k => ?_) ?_
          · show Steps p.tables e below (T216.setTop (mkF m 78 #[.val (.ref a1), .val (.long p1), .second, .val (.long p2), .second, .val (.int w1)] [(.int sx), (.ref a1)])) _
            refine XT.iconstV X216.here hx rfl (1 : Int32) (hb hby d3_78) rfl ?_
            show Steps p.tables e below (T216.setTop (mkF m 79 #[.val (.ref a1), .val (.long p1), .second, .val (.long p2), .second, .val (.int w1)] [(.int (1 : Int32)), (.int sx), (.ref a1)])) _
            refine XS.iadd X216.here hx rfl (hb hby d3_79) rfl ?_
            show Steps p.tables e below (T216.setTop (mkF m 80 #[.val (.ref a1), .val (.long p1), .second, .val (.long p2), .second, .val (.int w1)] [(.int (sx + (1 : Int32))), (.ref a1)])) _
            exact k
          obtain ⟨T217, h217, X217, e217, W217, st217⟩ := putF X216 hx hZ hown (host := "") (Or.inl (hw _ (List.mem_of_getElem? (i := 20) rfl))) Via.refl e216 f211 f207 (Or.inl (hw _ (List.mem_of_getElem? (i := 21) rfl))) (hw _ (List.mem_of_getElem? (i := 1) rfl)) (ty := .int) (by decide) rfl rfl (g := (mkF m 80 #[.val (.ref a1), .val (.long p1), .second, .val (.long p2), .second, .val (.int w1)] [(.int (sx + (1 : Int32))), (.ref a1)])) rfl rfl (hb hby d3_80)
          have N217 := own_frs (sl := Jvm.RoadKit.slotOf Z "com/example/tynemouth/tynemouth/control/ArrivalWindow" "size" "I") N206 g0
          have Z217 : n0 ≤ h217.size := by rw [W217.size]; exact Z206
          refine OwnWp.step st217 ?_
          have f218 := Exa.wr W217 f207
          have f219 := Fld.other W217 f208 (Or.inr (slot_ne (C := "com/example/tynemouth/tynemouth/control/ArrivalWindow") (Or.inl (hw _ (List.mem_of_getElem? (i := 11) rfl))) (Or.inl (hw _ (List.mem_of_getElem? (i := 21) rfl))) (by decide) (t := (.array .long)) (t' := .int) (by decide) (by decide)))
          have f220 := Fld.other W217 f209 (Or.inr (slot_ne (C := "com/example/tynemouth/tynemouth/control/ArrivalWindow") (Or.inl (hw _ (List.mem_of_getElem? (i := 14) rfl))) (Or.inl (hw _ (List.mem_of_getElem? (i := 21) rfl))) (by decide) (t := (.array .boolean)) (t' := .int) (by decide) (by decide)))
          have f221 := Fld.other W217 f210 (Or.inr (slot_ne (C := "com/example/tynemouth/tynemouth/control/ArrivalWindow") (Or.inl (hw _ (List.mem_of_getElem? (i := 23) rfl))) (Or.inl (hw _ (List.mem_of_getElem? (i := 21) rfl))) (by decide) (t := .int) (t' := .int) (by decide) (by decide)))
          have f222 := Fld.same W217 f211
          have f223 := Fld.other W217 f212 (Or.inr (slot_ne (C := "com/example/tynemouth/tynemouth/control/ArrivalWindow") (Or.inl (hw _ (List.mem_of_getElem? (i := 40) rfl))) (Or.inl (hw _ (List.mem_of_getElem? (i := 21) rfl))) (by decide) (t := .long) (t' := .int) (by decide) (by decide)))
          have f224 := OwnA.other f213 W217 ne1.symm
          have f225 := OwnA.other F214 W217 ne2.symm
          have K226 := Keep.wr K215 W217 (Or.inl (List.mem_of_getElem? (i := 0) rfl))
          show OwnWp p e below s _ _ _ (T217.setTop (mkF m 83 #[.val (.ref a1), .val (.long p1), .second, .val (.long p2), .second, .val (.int w1)] []))
          refine OwnWp.retV X217 hx hlk Bd.returns (hb hby d3_83) (by decide) (by decide) ?_
          rw [e217]
          exact ⟨rfl, N217, K226, ox, sx, dx, _, hd, hox, ⟨by omega, hsx⟩, f219, f220, f221, f222, f223, f224, by rw [← qw1]; exact f225⟩
        · refine OwnWp.step (U' := T187.setTop (mkF m 17 #[.val (.ref a1), .val (.long p1), .second, .val (.long p2), .second, .unset] [])) (fun t k => ?_) ?_
          · show Steps p.tables e below (T187.setTop (mkF m 14 #[.val (.ref a1), .val (.long p1), .second, .val (.long p2), .second, .unset] [(.int (XT.cmpL sx.toInt64 p2))])) _
            refine XS.ifNo X187.here hx rfl (hb hby d3_14) rfl (XT.ll_lt_f c14_188) ?_
            exact k
          refine OwnWp.step (U' := T187.setTop (mkF m 18 #[.val (.ref a1), .val (.long p1), .second, .val (.long p2), .second, .unset] [(.ref a1)])) (fun t k => ?_) ?_
          · show Steps p.tables e below (T187.setTop (mkF m 17 #[.val (.ref a1), .val (.long p1), .second, .val (.long p2), .second, .unset] [])) _
            refine XS.aloadN X187.here hx rfl (hb hby d3_17) rfl rfl ?_
            show Steps p.tables e below (T187.setTop (mkF m 18 #[.val (.ref a1), .val (.long p1), .second, .val (.long p2), .second, .unset] [(.ref a1)])) _
            exact k
          have hsb : 0 ≤ sx.toInt ∧ sx.toInt ≤ 15 := by omega
          obtain ⟨cl227, hcl227, hst227⟩ := Exa.cell f136
          obtain ⟨_, _, ⟨T227, L227, k227, n227⟩, -, X227, ⟨Lc227, hQ227, l227, y227, z227⟩, st227⟩ := X187.privateBack hx (y := (⟨"com/example/tynemouth/tynemouth/control/ArrivalWindow", "dropOldest", "()V"⟩ : MethodName)) hown (mvT hZ (hw _ (List.mem_of_getElem? (i := 41) rfl))) (mvT hZ (hw _ (List.mem_of_getElem? (i := 42) rfl))) hsel (Cond.privateMethod_at (mvP hZ (hw _ (List.mem_of_getElem? (i := 43) rfl)) (args := #[]))) (mvT hZ (hw _ (List.mem_of_getElem? (i := 44) rfl))) (by decide) (backOf (W := 0) (rm7 l Z a0 hw [] a1 b1 b2 f g ox sx dx h135 n0 Z135 g0 g1 g2 ne1 ne2 ne3 f136 f137 f138 f139 f140 f141 f142 f143 hox hsb) hZ (hw _ (List.mem_of_getElem? (i := 44) rfl)) (hw _ (List.mem_of_getElem? (i := 2) rfl)) (by decide) (by decide)) (g := (mkF m 18 #[.val (.ref a1), .val (.long p1), .second, .val (.long p2), .second, .unset] [(.ref a1)])) rfl (by rw [hml]; rfl) (Steps.refl _) (a := a1) (by rw [e187]; exact hcl227) hst227 (argsL := []) (rest := []) (lenOf pd_7 rfl) rfl (by show 2 * 0 + _ ≤ _; exact Nat.le_of_eq rfl) (hb hby d3_18) (fun _ _ => ⟨rfl, e187, (by dsimp only [Pt.cells]; decide), (by dsimp only [Pt.slots]; decide)⟩)
          dsimp only [Pt.U, Pt.locs, Pt.cells, Pt.slots] at X227 l227 y227 z227 st227 hQ227
          subst l227 y227 z227
          obtain ⟨rfl, Nc227, Kc227, fa227, fb227, fc227, fd227, fe227⟩ := hQ227
          have N227 := Fr.app N135 Nc227
          refine OwnWp.go st227 ?_
          have Z227 : n0 ≤ T227.heap.size := Nat.le_trans Z135 Kc227.1
          have f228 := Exa.keep f136 Kc227
          have f234 := OwnA.keep f142 Kc227 (ninS ne1.symm nin0)
          have f235 := OwnA.keep f143 Kc227 (ninS ne2.symm nin0)
          have K236 := Keep.trans K144 Kc227 (allS (Or.inl (List.mem_of_getElem? (i := 0) rfl)) all0)
          show OwnWp p e below s _ _ _ (T227.setTop (mkF m 21 #[.val (.ref a1), .val (.long p1), .second, .val (.long p2), .second, .unset] []))
          refine OwnWp.step (U' := T227.setTop (mkF m 0 #[.val (.ref a1), .val (.long p1), .second, .val (.long p2), .second, .unset] [])) (fun t k => ?_) ?_
          · show Steps p.tables e below (T227.setTop (mkF m 21 #[.val (.ref a1), .val (.long p1), .second, .val (.long p2), .second, .unset] [])) _
            refine XS.goto X227.here hx rfl (pc0 := 21) (pc' := 0) rfl (hb hby d3_21) (by decide) (by decide) ?_
            show Steps p.tables e below (T227.setTop (mkF m 0 #[.val (.ref a1), .val (.long p1), .second, .val (.long p2), .second, .unset] [])) _
            exact k
          obtain ⟨t1, t2, t3, t4⟩ := own_turn hk hox hsx hs hgo c4_186 c14_188
          exact ih  T227 T227.heap _ ((ox + (1 : Int32)) % (16 : Int32)) (sx - (1 : Int32)) (if g ox.toInt = 0 then dx else dx - (1 : Int64)) X227 (rfl : T227.heap = T227.heap) N227 Z227 f228 fa227 fb227 fc227 fd227 fe227 f234 f235 K236 t1 t2 t3 t4
      · refine OwnWp.step (U' := T185.setTop (mkF m 24 #[.val (.ref a1), .val (.long p1), .second, .val (.long p2), .second, .unset] [])) (fun t k => ?_) ?_
        · show Steps p.tables e below (T185.setTop (mkF m 4 #[.val (.ref a1), .val (.long p1), .second, .val (.long p2), .second, .unset] [(.int sx)])) _
          refine XS.ifYes X185.here hx rfl (pc0 := 4) (pc' := 24) rfl (hb hby d3_4) rfl (XT.i0_le_t c4_186) (by decide) (by decide) ?_
          exact k
        have hd := own_stop1 hgo c4_186
        refine OwnWp.step (U' := T185.setTop (mkF m 25 #[.val (.ref a1), .val (.long p1), .second, .val (.long p2), .second, .unset] [(.ref a1)])) (fun t k => ?_) ?_
        · show Steps p.tables e below (T185.setTop (mkF m 24 #[.val (.ref a1), .val (.long p1), .second, .val (.long p2), .second, .unset] [])) _
          refine XS.aloadN X185.here hx rfl (hb hby d3_24) rfl rfl ?_
          show Steps p.tables e below (T185.setTop (mkF m 25 #[.val (.ref a1), .val (.long p1), .second, .val (.long p2), .second, .unset] [(.ref a1)])) _
          exact k
        obtain ⟨T237, X237, e237, st237⟩ := getF X185 hx hZ hown (host := "") (Or.inl (hw _ (List.mem_of_getElem? (i := 20) rfl))) Via.refl e185 f140 (g := (mkF m 25 #[.val (.ref a1), .val (.long p1), .second, .val (.long p2), .second, .unset] [(.ref a1)])) rfl rfl (hb hby d3_25)
        refine OwnWp.step st237 ?_
        show OwnWp p e below s _ _ _ (T237.setTop (mkF m 28 #[.val (.ref a1), .val (.long p1), .second, .val (.long p2), .second, .unset] [(.int sx)]))
        refine OwnWp.step (U' := T237.setTop (mkF m 29 #[.val (.ref a1), .val (.long p1), .second, .val (.long p2), .second, .unset] [(.ref a1), (.int sx)])) (fun t k => ?_) ?_
        · show Steps p.tables e below (T237.setTop (mkF m 28 #[.val (.ref a1), .val (.long p1), .second, .val (.long p2), .second, .unset] [(.int sx)])) _
          refine XS.aloadN X237.here hx rfl (hb hby d3_28) rfl rfl ?_
          show Steps p.tables e below (T237.setTop (mkF m 29 #[.val (.ref a1), .val (.long p1), .second, .val (.long p2), .second, .unset] [(.ref a1), (.int sx)])) _
          exact k
        obtain ⟨T238, X238, e238, st238⟩ := getF X237 hx hZ hown (host := "") (Or.inl (hw _ (List.mem_of_getElem? (i := 10) rfl))) Via.refl e237 f137 (g := (mkF m 29 #[.val (.ref a1), .val (.long p1), .second, .val (.long p2), .second, .unset] [(.ref a1), (.int sx)])) rfl rfl (hb hby d3_29)
        refine OwnWp.step st238 ?_
        show OwnWp p e below s _ _ _ (T238.setTop (mkF m 32 #[.val (.ref a1), .val (.long p1), .second, .val (.long p2), .second, .unset] [(.ref b1), (.int sx)]))
        refine OwnWp.step (U' := T238.setTop (mkF m 33 #[.val (.ref a1), .val (.long p1), .second, .val (.long p2), .second, .unset] [(.int (16 : Int32)), (.int sx)])) (fun t k => ?_) ?_
        · show Steps p.tables e below (T238.setTop (mkF m 32 #[.val (.ref a1), .val (.long p1), .second, .val (.long p2), .second, .unset] [(.ref b1), (.int sx)])) _
          refine OwnA.alen X238 hx hZ e238 f142 rfl rfl (hb hby d3_32) ?_
          show Steps p.tables e below (T238.setTop (mkF m 33 #[.val (.ref a1), .val (.long p1), .second, .val (.long p2), .second, .unset] [(.int (16 : Int32)), (.int sx)])) _
          exact k
        have hn16 := own_n16 sx s0 hsx hs
        refine OwnWp.step (U' := T238.setTop (mkF m 41 #[.val (.ref a1), .val (.long p1), .second, .val (.long p2), .second, .unset] [(.ref a1)])) (fun t k => ?_) ?_
        · show Steps p.tables e below (T238.setTop (mkF m 33 #[.val (.ref a1), .val (.long p1), .second, .val (.long p2), .second, .unset] [(.int (16 : Int32)), (.int sx)])) _
          refine XS.icmpYes X238.here hx rfl (pc0 := 33) (pc' := 40) rfl (hb hby d3_33) rfl (XT.ii_ne_t hn16) (by decide) (by decide) ?_
          show Steps p.tables e below (T238.setTop (mkF m 40 #[.val (.ref a1), .val (.long p1), .second, .val (.long p2), .second, .unset] [])) _
          refine XS.aloadN X238.here hx rfl (hb hby d3_40) rfl rfl ?_
          show Steps p.tables e below (T238.setTop (mkF m 41 #[.val (.ref a1), .val (.long p1), .second, .val (.long p2), .second, .unset] [(.ref a1)])) _
          exact k
        obtain ⟨T239, X239, e239, st239⟩ := getF X238 hx hZ hown (host := "") (Or.inl (hw _ (List.mem_of_getElem? (i := 22) rfl))) Via.refl e238 f139 (g := (mkF m 41 #[.val (.ref a1), .val (.long p1), .second, .val (.long p2), .second, .unset] [(.ref a1)])) rfl rfl (hb hby d3_41)
        refine OwnWp.step st239 ?_
        show OwnWp p e below s _ _ _ (T239.setTop (mkF m 44 #[.val (.ref a1), .val (.long p1), .second, .val (.long p2), .second, .unset] [(.int ox)]))
        refine OwnWp.step (U' := T239.setTop (mkF m 45 #[.val (.ref a1), .val (.long p1), .second, .val (.long p2), .second, .unset] [(.ref a1), (.int ox)])) (fun t k => ?_) ?_
        · show Steps p.tables e below (T239.setTop (mkF m 44 #[.val (.ref a1), .val (.long p1), .second, .val (.long p2), .second, .unset] [(.int ox)])) _
          refine XS.aloadN X239.here hx rfl (hb hby d3_44) rfl rfl ?_
          show Steps p.tables e below (T239.setTop (mkF m 45 #[.val (.ref a1), .val (.long p1), .second, .val (.long p2), .second, .unset] [(.ref a1), (.int ox)])) _
          exact k
        obtain ⟨T240, X240, e240, st240⟩ := getF X239 hx hZ hown (host := "") (Or.inl (hw _ (List.mem_of_getElem? (i := 20) rfl))) Via.refl e239 f140 (g := (mkF m 45 #[.val (.ref a1), .val (.long p1), .second, .val (.long p2), .second, .unset] [(.ref a1), (.int ox)])) rfl rfl (hb hby d3_45)
        refine OwnWp.step st240 ?_
        show OwnWp p e below s _ _ _ (T240.setTop (mkF m 48 #[.val (.ref a1), .val (.long p1), .second, .val (.long p2), .second, .unset] [(.int sx), (.int ox)]))
        refine OwnWp.step (U' := T240.setTop (mkF m 50 #[.val (.ref a1), .val (.long p1), .second, .val (.long p2), .second, .unset] [(.ref a1), (.int (ox + sx))])) (fun t k => ?_) ?_
        · show Steps p.tables e below (T240.setTop (mkF m 48 #[.val (.ref a1), .val (.long p1), .second, .val (.long p2), .second, .unset] [(.int sx), (.int ox)])) _
          refine XS.iadd X240.here hx rfl (hb hby d3_48) rfl ?_
          show Steps p.tables e below (T240.setTop (mkF m 49 #[.val (.ref a1), .val (.long p1), .second, .val (.long p2), .second, .unset] [(.int (ox + sx))])) _
          refine XS.aloadN X240.here hx rfl (hb hby d3_49) rfl rfl ?_
          show Steps p.tables e below (T240.setTop (mkF m 50 #[.val (.ref a1), .val (.long p1), .second, .val (.long p2), .second, .unset] [(.ref a1), (.int (ox + sx))])) _
          exact k
        obtain ⟨T241, X241, e241, st241⟩ := getF X240 hx hZ hown (host := "") (Or.inl (hw _ (List.mem_of_getElem? (i := 10) rfl))) Via.refl e240 f137 (g := (mkF m 50 #[.val (.ref a1), .val (.long p1), .second, .val (.long p2), .second, .unset] [(.ref a1), (.int (ox + sx))])) rfl rfl (hb hby d3_50)
        refine OwnWp.step st241 ?_
        show OwnWp p e below s _ _ _ (T241.setTop (mkF m 53 #[.val (.ref a1), .val (.long p1), .second, .val (.long p2), .second, .unset] [(.ref b1), (.int (ox + sx))]))
        obtain ⟨w1, qw1⟩ : ∃ z : Int32, z = ((ox + sx) % (16 : Int32)) := ⟨_, rfl⟩
        refine OwnWp.step (U' := T241.setTop (mkF m 57 #[.val (.ref a1), .val (.long p1), .second, .val (.long p2), .second, .val (.int w1)] [])) (fun t k => ?_) ?_
        · show Steps p.tables e below (T241.setTop (mkF m 53 #[.val (.ref a1), .val (.long p1), .second, .val (.long p2), .second, .unset] [(.ref b1), (.int (ox + sx))])) _
          refine OwnA.alen X241 hx hZ e241 f142 rfl rfl (hb hby d3_53) ?_
          show Steps p.tables e below (T241.setTop (mkF m 54 #[.val (.ref a1), .val (.long p1), .second, .val (.long p2), .second, .unset] [(.int (16 : Int32)), (.int (ox + sx))])) _
          refine iremM X241 hx rfl (hb hby d3_54) rfl (by decide) ?_
          show Steps p.tables e below (T241.setTop (mkF m 55 #[.val (.ref a1), .val (.long p1), .second, .val (.long p2), .second, .unset] [(.int ((ox + sx) % (16 : Int32)))])) _
          refine XS.istore X241.here hx rfl (hb hby d3_55) rfl (l' := #[.val (.ref a1), .val (.long p1), .second, .val (.long p2), .second, .val (.int ((ox + sx) % (16 : Int32)))]) rfl ?_
          show Steps p.tables e below (T241.setTop (mkF m 57 #[.val (.ref a1), .val (.long p1), .second, .val (.long p2), .second, .val (.int ((ox + sx) % (16 : Int32)))] [])) _
          rw [qw1] at k
          exact k
        refine OwnWp.step (U' := T241.setTop (mkF m 58 #[.val (.ref a1), .val (.long p1), .second, .val (.long p2), .second, .val (.int w1)] [(.ref a1)])) (fun t k => ?_) ?_
        · show Steps p.tables e below (T241.setTop (mkF m 57 #[.val (.ref a1), .val (.long p1), .second, .val (.long p2), .second, .val (.int w1)] [])) _
          refine XS.aloadN X241.here hx rfl (hb hby d3_57) rfl rfl ?_
          show Steps p.tables e below (T241.setTop (mkF m 58 #[.val (.ref a1), .val (.long p1), .second, .val (.long p2), .second, .val (.int w1)] [(.ref a1)])) _
          exact k
        obtain ⟨T242, X242, e242, st242⟩ := getF X241 hx hZ hown (host := "") (Or.inl (hw _ (List.mem_of_getElem? (i := 10) rfl))) Via.refl e241 f137 (g := (mkF m 58 #[.val (.ref a1), .val (.long p1), .second, .val (.long p2), .second, .val (.int w1)] [(.ref a1)])) rfl rfl (hb hby d3_58)
        refine OwnWp.step st242 ?_
        show OwnWp p e below s _ _ _ (T242.setTop (mkF m 61 #[.val (.ref a1), .val (.long p1), .second, .val (.long p2), .second, .val (.int w1)] [(.ref b1)]))
        refine OwnWp.step (U' := T242.setTop (mkF m 64 #[.val (.ref a1), .val (.long p1), .second, .val (.long p2), .second, .val (.int w1)] [(.long p1), (.int w1), (.ref b1)])) (fun t k => ?_) ?_
        · show Steps p.tables e below (T242.setTop (mkF m 61 #[.val (.ref a1), .val (.long p1), .second, .val (.long p2), .second, .val (.int w1)] [(.ref b1)])) _
          refine XS.iload X242.here hx rfl (hb hby d3_61) rfl ?_
          show Steps p.tables e below (T242.setTop (mkF m 63 #[.val (.ref a1), .val (.long p1), .second, .val (.long p2), .second, .val (.int w1)] [(.int w1), (.ref b1)])) _
          refine XT.lloadN X242.here hx rfl (hb hby d3_63) rfl ?_
          show Steps p.tables e below (T242.setTop (mkF m 64 #[.val (.ref a1), .val (.long p1), .second, .val (.long p2), .second, .val (.int w1)] [(.long p1), (.int w1), (.ref b1)])) _
          exact k
        obtain ⟨T243, h243, L243, X243, e243, N243, K243, F243, st243⟩ := OwnA.stJ X242 hx hZ e242 N135 g1 f142 (own_ix ox sx hox (by omega) (by omega) w1 qw1).1 (own_ix ox sx hox (by omega) (by omega) w1 qw1).2 (g := (mkF m 64 #[.val (.ref a1), .val (.long p1), .second, .val (.long p2), .second, .val (.int w1)] [(.long p1), (.int w1), (.ref b1)])) rfl rfl (hb hby d3_64)
        refine OwnWp.step st243 ?_
        have Z243 : n0 ≤ h243.size := Nat.le_trans Z135 K243.1
        have f244 := Exa.keep f136 K243
        have f245 := Fld.keep f137 K243 (ninS ne1 nin0)
        have f246 := Fld.keep f138 K243 (ninS ne1 nin0)
        have f247 := Fld.keep f139 K243 (ninS ne1 nin0)
        have f248 := Fld.keep f140 K243 (ninS ne1 nin0)
        have f249 := Fld.keep f141 K243 (ninS ne1 nin0)
        have f250 := OwnA.keep f143 K243 (ninS ne3.symm nin0)
        have F251 : OwnA Z h243 b1 .long (16 : Int32) (fun i => .long ((ownUpd f w1.toInt p1) i)) := F243.congr (fun i _ _ => by simp only [ownUpd]; split <;> rfl)
        have K252 := Keep.trans K144 K243 (allS (Or.inl (List.mem_of_getElem? (i := 1) rfl)) all0)
        show OwnWp p e below s _ _ _ (T243.setTop (mkF m 65 #[.val (.ref a1), .val (.long p1), .second, .val (.long p2), .second, .val (.int w1)] []))
        refine OwnWp.step (U' := T243.setTop (mkF m 66 #[.val (.ref a1), .val (.long p1), .second, .val (.long p2), .second, .val (.int w1)] [(.ref a1)])) (fun t k => ?_) ?_
        · show Steps p.tables e below (T243.setTop (mkF m 65 #[.val (.ref a1), .val (.long p1), .second, .val (.long p2), .second, .val (.int w1)] [])) _
          refine XS.aloadN X243.here hx rfl (hb hby d3_65) rfl rfl ?_
          show Steps p.tables e below (T243.setTop (mkF m 66 #[.val (.ref a1), .val (.long p1), .second, .val (.long p2), .second, .val (.int w1)] [(.ref a1)])) _
          exact k
        obtain ⟨T253, X253, e253, st253⟩ := getF X243 hx hZ hown (host := "") (Or.inl (hw _ (List.mem_of_getElem? (i := 13) rfl))) Via.refl e243 f246 (g := (mkF m 66 #[.val (.ref a1), .val (.long p1), .second, .val (.long p2), .second, .val (.int w1)] [(.ref a1)])) rfl rfl (hb hby d3_66)
        refine OwnWp.step st253 ?_
        show OwnWp p e below s _ _ _ (T253.setTop (mkF m 69 #[.val (.ref a1), .val (.long p1), .second, .val (.long p2), .second, .val (.int w1)] [(.ref b2)]))
        refine OwnWp.step (U' := T253.setTop (mkF m 72 #[.val (.ref a1), .val (.long p1), .second, .val (.long p2), .second, .val (.int w1)] [(.int (0 : Int32)), (.int w1), (.ref b2)])) (fun t k => ?_) ?_
        · show Steps p.tables e below (T253.setTop (mkF m 69 #[.val (.ref a1), .val (.long p1), .second, .val (.long p2), .second, .val (.int w1)] [(.ref b2)])) _
          refine XS.iload X253.here hx rfl (hb hby d3_69) rfl ?_
          show Steps p.tables e below (T253.setTop (mkF m 71 #[.val (.ref a1), .val (.long p1), .second, .val (.long p2), .second, .val (.int w1)] [(.int w1), (.ref b2)])) _
          refine XT.iconstV X253.here hx rfl (0 : Int32) (hb hby d3_71) rfl ?_
          show Steps p.tables e below (T253.setTop (mkF m 72 #[.val (.ref a1), .val (.long p1), .second, .val (.long p2), .second, .val (.int w1)] [(.int (0 : Int32)), (.int w1), (.ref b2)])) _
          exact k
        obtain ⟨T254, h254, L254, X254, e254, N254, K254, F254, st254⟩ := OwnA.stZ X253 hx hZ e253 N243 g2 f250 (own_ix ox sx hox (by omega) (by omega) w1 qw1).1 (own_ix ox sx hox (by omega) (by omega) w1 qw1).2 (g := (mkF m 72 #[.val (.ref a1), .val (.long p1), .second, .val (.long p2), .second, .val (.int w1)] [(.int (0 : Int32)), (.int w1), (.ref b2)])) rfl rfl (hb hby d3_72)
        refine OwnWp.step st254 ?_
        have Z254 : n0 ≤ h254.size := Nat.le_trans Z243 K254.1
        have f255 := Exa.keep f244 K254
        have f256 := Fld.keep f245 K254 (ninS ne2 nin0)
        have f257 := Fld.keep f246 K254 (ninS ne2 nin0)
        have f258 := Fld.keep f247 K254 (ninS ne2 nin0)
        have f259 := Fld.keep f248 K254 (ninS ne2 nin0)
        have f260 := Fld.keep f249 K254 (ninS ne2 nin0)
        have f261 := OwnA.keep F251 K254 (ninS ne3 nin0)
        have F262 : OwnA Z h254 b2 .boolean (16 : Int32) (fun i => .int ((ownUpd g w1.toInt (nar .boolean (0 : Int32))) i)) := F254.congr (fun i _ _ => by simp only [ownUpd]; split <;> rfl)
        have K263 := Keep.trans K252 K254 (allS (Or.inl (List.mem_of_getElem? (i := 2) rfl)) all0)
        show OwnWp p e below s _ _ _ (T254.setTop (mkF m 73 #[.val (.ref a1), .val (.long p1), .second, .val (.long p2), .second, .val (.int w1)] []))
        refine OwnWp.step (U' := T254.setTop (mkF m 75 #[.val (.ref a1), .val (.long p1), .second, .val (.long p2), .second, .val (.int w1)] [(.ref a1), (.ref a1)])) (fun t k => ?_) ?_
        · show Steps p.tables e below (T254.setTop (mkF m 73 #[.val (.ref a1), .val (.long p1), .second, .val (.long p2), .second, .val (.int w1)] [])) _
          refine XS.aloadN X254.here hx rfl (hb hby d3_73) rfl rfl ?_
          show Steps p.tables e below (T254.setTop (mkF m 74 #[.val (.ref a1), .val (.long p1), .second, .val (.long p2), .second, .val (.int w1)] [(.ref a1)])) _
          refine XS.dup X254.here hx rfl (hb hby d3_74) rfl rfl ?_
          show Steps p.tables e below (T254.setTop (mkF m 75 #[.val (.ref a1), .val (.long p1), .second, .val (.long p2), .second, .val (.int w1)] [(.ref a1), (.ref a1)])) _
          exact k
        obtain ⟨T264, X264, e264, st264⟩ := getF X254 hx hZ hown (host := "") (Or.inl (hw _ (List.mem_of_getElem? (i := 20) rfl))) Via.refl e254 f259 (g := (mkF m 75 #[.val (.ref a1), .val (.long p1), .second, .val (.long p2), .second, .val (.int w1)] [(.ref a1), (.ref a1)])) rfl rfl (hb hby d3_75)
        refine OwnWp.step st264 ?_
        show OwnWp p e below s _ _ _ (T264.setTop (mkF m 78 #[.val (.ref a1), .val (.long p1), .second, .val (.long p2), .second, .val (.int w1)] [(.int sx), (.ref a1)]))
        refine OwnWp.step (U' := T264.setTop (mkF m 80 #[.val (.ref a1), .val (.long p1), .second, .val (.long p2), .second, .val (.int w1)] [(.int (sx + (1 : Int32))), (.ref a1)])) (fun t k => ?_) ?_
        · show Steps p.tables e below (T264.setTop (mkF m 78 #[.val (.ref a1), .val (.long p1), .second, .val (.long p2), .second, .val (.int w1)] [(.int sx), (.ref a1)])) _
          refine XT.iconstV X264.here hx rfl (1 : Int32) (hb hby d3_78) rfl ?_
          show Steps p.tables e below (T264.setTop (mkF m 79 #[.val (.ref a1), .val (.long p1), .second, .val (.long p2), .second, .val (.int w1)] [(.int (1 : Int32)), (.int sx), (.ref a1)])) _
          refine XS.iadd X264.here hx rfl (hb hby d3_79) rfl ?_
          show Steps p.tables e below (T264.setTop (mkF m 80 #[.val (.ref a1), .val (.long p1), .second, .val (.long p2), .second, .val (.int w1)] [(.int (sx + (1 : Int32))), (.ref a1)])) _
          exact k
        obtain ⟨T265, h265, X265, e265, W265, st265⟩ := putF X264 hx hZ hown (host := "") (Or.inl (hw _ (List.mem_of_getElem? (i := 20) rfl))) Via.refl e264 f259 f255 (Or.inl (hw _ (List.mem_of_getElem? (i := 21) rfl))) (hw _ (List.mem_of_getElem? (i := 1) rfl)) (ty := .int) (by decide) rfl rfl (g := (mkF m 80 #[.val (.ref a1), .val (.long p1), .second, .val (.long p2), .second, .val (.int w1)] [(.int (sx + (1 : Int32))), (.ref a1)])) rfl rfl (hb hby d3_80)
        have N265 := own_frs (sl := Jvm.RoadKit.slotOf Z "com/example/tynemouth/tynemouth/control/ArrivalWindow" "size" "I") N254 g0
        have Z265 : n0 ≤ h265.size := by rw [W265.size]; exact Z254
        refine OwnWp.step st265 ?_
        have f266 := Exa.wr W265 f255
        have f267 := Fld.other W265 f256 (Or.inr (slot_ne (C := "com/example/tynemouth/tynemouth/control/ArrivalWindow") (Or.inl (hw _ (List.mem_of_getElem? (i := 11) rfl))) (Or.inl (hw _ (List.mem_of_getElem? (i := 21) rfl))) (by decide) (t := (.array .long)) (t' := .int) (by decide) (by decide)))
        have f268 := Fld.other W265 f257 (Or.inr (slot_ne (C := "com/example/tynemouth/tynemouth/control/ArrivalWindow") (Or.inl (hw _ (List.mem_of_getElem? (i := 14) rfl))) (Or.inl (hw _ (List.mem_of_getElem? (i := 21) rfl))) (by decide) (t := (.array .boolean)) (t' := .int) (by decide) (by decide)))
        have f269 := Fld.other W265 f258 (Or.inr (slot_ne (C := "com/example/tynemouth/tynemouth/control/ArrivalWindow") (Or.inl (hw _ (List.mem_of_getElem? (i := 23) rfl))) (Or.inl (hw _ (List.mem_of_getElem? (i := 21) rfl))) (by decide) (t := .int) (t' := .int) (by decide) (by decide)))
        have f270 := Fld.same W265 f259
        have f271 := Fld.other W265 f260 (Or.inr (slot_ne (C := "com/example/tynemouth/tynemouth/control/ArrivalWindow") (Or.inl (hw _ (List.mem_of_getElem? (i := 40) rfl))) (Or.inl (hw _ (List.mem_of_getElem? (i := 21) rfl))) (by decide) (t := .long) (t' := .int) (by decide) (by decide)))
        have f272 := OwnA.other f261 W265 ne1.symm
        have f273 := OwnA.other F262 W265 ne2.symm
        have K274 := Keep.wr K263 W265 (Or.inl (List.mem_of_getElem? (i := 0) rfl))
        show OwnWp p e below s _ _ _ (T265.setTop (mkF m 83 #[.val (.ref a1), .val (.long p1), .second, .val (.long p2), .second, .val (.int w1)] []))
        refine OwnWp.retV X265 hx hlk Bd.returns (hb hby d3_83) (by decide) (by decide) ?_
        rw [e265]
        exact ⟨rfl, N265, K274, ox, sx, dx, _, hd, hox, ⟨by omega, hsx⟩, f267, f268, f269, f270, f271, f272, by rw [← qw1]; exact f273⟩
  exact hloop s0.toInt.toNat s₁ h0 _ o s0 d X0 e0 N0 Z0 E0 Fins Fadm Fold Fsiz FadmH A1 A2 K0 (by omega) ho (by omega) (own_cont0 g p2 _ o s0 d)
theorem d4_0 : decode jdk_29_method_70_code 0 = .ok (.lload_n 0, 1) := by decide +kernel
theorem d4_1 : decode jdk_29_method_70_code 1 = .ok (.lload_n 2, 1) := by decide +kernel
theorem d4_2 : decode jdk_29_method_70_code 2 = .ok (.lcmp, 1) := by decide +kernel
theorem d4_3 : decode jdk_29_method_70_code 3 = .ok (.ifCond .gt 7, 3) := by decide +kernel
theorem d4_6 : decode jdk_29_method_70_code 6 = .ok (.lload_n 0, 1) := by decide +kernel
theorem d4_7 : decode jdk_29_method_70_code 7 = .ok (.goto 4, 3) := by decide +kernel
theorem d4_10 : decode jdk_29_method_70_code 10 = .ok (.lload_n 2, 1) := by decide +kernel
theorem d4_11 : decode jdk_29_method_70_code 11 = .ok (.lreturn, 1) := by decide +kernel
theorem pn_4 : plainFor (⟨"java/lang/Math", "min", "(JJ)J"⟩ : MethodName) = true := Jvm.Free.JP.mathPlain rfl (by decide +kernel)
theorem pd_4 : parseMethodDescriptor "(JJ)J" = some ⟨[.long, .long], some .long⟩ := by decide +kernel
theorem ef_4 (m : MethodId) (x0 : Int64) (x1 : Int64) : entryFrame m #[(.long x0), (.long x1)] 4 = mkF m 0 #[.val (.long x0), .second, .val (.long x1), .second] [] := by first | (simp [entryFrame, mkF, argsToLocals, Value.category, maxLocals]; done) | rfl
def own_min_w1 (p1 : Int64) (p2 : Int64) : Int64 := (if p2 < p1 then p2 else p1)
def own_min (p1 : Int64) (p2 : Int64) : Int64 := (own_min_w1 p1 p2)
def Q4 (Z : State) (p1 : Int64) (p2 : Int64)  (h0 : Heap) (n0 : Nat) (v : Option Value) (h : Heap) (L : List Loc) : Prop := v = some (.long (own_min p1 p2)) ∧ Fr n0 L ∧ h = h0
set_option maxRecDepth 65536 in
set_option maxHeartbeats 40000000 in
theorem rm4 (l : Launch) (Z : State) (a0 : Array Value) (hw : ∀ d ∈ tables_1, d.before a0 Z = true) (ws : List Jvm.Cond) (p1 : Int64) (p2 : Int64)  (h0 : Heap) (n0 : Nat) (Z0 : n0 ≤ h0.size)  :
    MetFree l (⟨"java/lang/Math", "min", "(JJ)J"⟩ : MethodName) (head1 (Jvm.Cond.code (⟨"java/lang/Math", "min", "(JJ)J"⟩ : MethodName) jdk_29_method_70_code 4 (some .long) :: ws) ({ frames := 0, cells := 0, slots := 0, locals := 0 } : Room)) (fun a U => a = #[(.long p1), (.long p2)] ∧ Z.Warmed39 U.vm ∧ U.heap = h0) (fun _ _ _ _ _ => True) (fun _ U oc U' => ∃ v L, oc = .returned v ∧ Q4 Z p1 p2  h0 n0 v U'.heap L ∧ FrameEnd U oc U' L ({ frames := 0, cells := 0, slots := 0, locals := 0 } : Room).cells ({ frames := 0, cells := 0, slots := 0, locals := 0 } : Room).slots) := by
  refine MetFree.of_bodySF pn_4 hisR ?_
  intro p e s m args below meth c s₁ Bd hml0 hP hK
  obtain ⟨rfl, hZ, hh⟩ := hP
  have hx := Bd.exec
  have hby := Bd.bytes
  have hlk := BodyLoose.notSynchronized Bd
  have hml : c.maxLocals = 4 := hml0
  have hown : s.vm.findClass "java/lang/Math" = some m.cls := findClass_of_methodNamed Bd.named
  have hnm := (name_of_methodNamed Bd.named Bd.method).1
  have X0 : Stand p l e ({ frames := 0, cells := 0, slots := 0, locals := 0 } : Room) s m #[(.long p1), (.long p2)] below meth c s₁ [] 0 0 := Stand.of_body Bd
  have e0 : s₁.heap = h0 := by rw [← hh, Bd.state]; rfl
  have N0 := Fr.nil n0
  show OwnWp p e below s ({ frames := 0, cells := 0, slots := 0, locals := 0 } : Room).cells ({ frames := 0, cells := 0, slots := 0, locals := 0 } : Room).slots (Q4 Z p1 p2  h0 n0) (s₁.setTop (entryFrame m #[(.long p1), (.long p2)] 4))
  refine OwnWp.cast (ef_4 m p1 p2) ?_
  show OwnWp p e below s _ _ _ (s₁.setTop (mkF m 0 #[.val (.long p1), .second, .val (.long p2), .second] []))
  refine OwnWp.step (U' := s₁.setTop (mkF m 3 #[.val (.long p1), .second, .val (.long p2), .second] [(.int (XT.cmpL p1 p2))])) (fun t k => ?_) ?_
  · show Steps p.tables e below (s₁.setTop (mkF m 0 #[.val (.long p1), .second, .val (.long p2), .second] [])) _
    refine XT.lloadN X0.here hx rfl (hb hby d4_0) rfl ?_
    show Steps p.tables e below (s₁.setTop (mkF m 1 #[.val (.long p1), .second, .val (.long p2), .second] [(.long p1)])) _
    refine XT.lloadN X0.here hx rfl (hb hby d4_1) rfl ?_
    show Steps p.tables e below (s₁.setTop (mkF m 2 #[.val (.long p1), .second, .val (.long p2), .second] [(.long p2), (.long p1)])) _
    refine XT.lcmp X0.here hx rfl (hb hby d4_2) rfl ?_
    show Steps p.tables e below (s₁.setTop (mkF m 3 #[.val (.long p1), .second, .val (.long p2), .second] [(.int (XT.cmpL p1 p2))])) _
    exact k
  obtain ⟨w1, qw1⟩ : ∃ z : Int64, z = (if p2 < p1 then p2 else p1) := ⟨_, rfl⟩
  refine OwnWp.step (U' := s₁.setTop (mkF m 11 #[.val (.long p1), .second, .val (.long p2), .second] [(.long w1)])) (fun t k => ?_) ?_
  · show Steps p.tables e below (s₁.setTop (mkF m 3 #[.val (.long p1), .second, .val (.long p2), .second] [(.int (XT.cmpL p1 p2))])) _
    by_cases c3_275 : p2 < p1
    · refine XS.ifYes X0.here hx rfl (pc0 := 3) (pc' := 10) rfl (hb hby d4_3) rfl (XT.ll_gt_t c3_275) (by decide) (by decide) ?_
      show Steps p.tables e below (s₁.setTop (mkF m 10 #[.val (.long p1), .second, .val (.long p2), .second] [])) _
      refine XT.lloadN X0.here hx rfl (hb hby d4_10) rfl ?_
      show Steps p.tables e below (s₁.setTop (mkF m 11 #[.val (.long p1), .second, .val (.long p2), .second] [(.long p2)])) _
      rw [show w1 = p2 from by rw [qw1, if_pos c3_275]] at k
      exact k
    · refine XS.ifNo X0.here hx rfl (hb hby d4_3) rfl (XT.ll_gt_f c3_275) ?_
      show Steps p.tables e below (s₁.setTop (mkF m 6 #[.val (.long p1), .second, .val (.long p2), .second] [])) _
      refine XT.lloadN X0.here hx rfl (hb hby d4_6) rfl ?_
      show Steps p.tables e below (s₁.setTop (mkF m 7 #[.val (.long p1), .second, .val (.long p2), .second] [(.long p1)])) _
      refine XS.goto X0.here hx rfl (pc0 := 7) (pc' := 11) rfl (hb hby d4_7) (by decide) (by decide) ?_
      show Steps p.tables e below (s₁.setTop (mkF m 11 #[.val (.long p1), .second, .val (.long p2), .second] [(.long p1)])) _
      rw [show w1 = p1 from by rw [qw1, if_neg c3_275]] at k
      exact k
  refine OwnWp.retJ X0 hx hlk Bd.returns (hb hby d4_11) (by decide) (by decide) ?_
  refine ⟨?_, N0, e0⟩
  show some (Value.long w1) = some (.long (own_min p1 p2))
  subst qw1
  unfold own_min own_min_w1
  rfl
theorem own_lawA (p4 : Int32) (w1 : Int64) (qw1 : w1 = ((1 : Int64) + (p4 &&& (3 : Int32)).toInt64)) (w2 : Int32) (qw2 : w2 = (if (p4 &&& (4 : Int32)) = (0 : Int32) then (0 : Int32) else (1 : Int32))) (w3 : Int32) (qw3 : w3 = (if (p4 &&& (8 : Int32)) = (0 : Int32) then (0 : Int32) else (1 : Int32))) (w4 : Int32) (qw4 : w4 = (if (p4 &&& (16 : Int32)) = (0 : Int32) then (0 : Int32) else (1 : Int32))) (w5 : Int32) (qw5 : w5 = (if (p4 &&& (32 : Int32)) = (0 : Int32) then (0 : Int32) else (1 : Int32))) (o1 s1 : Int32) (d1 : Int64) (hq1 : own_isdrops (fun _ => (0 : Int32)) w1 (0 : Int32).toInt.toNat (0 : Int32) (0 : Int32) (0 : Int64) o1 s1 d1) (dj1 : Int64) (gj1 : Int → Int32) (hdj1 : dj1 = (if w2 = (0 : Int32) then d1 else (own_admD (ownUpd (fun _ => (0 : Int32)) ((o1 + s1) % (16 : Int32)).toInt (nar .boolean (0 : Int32))) (((o1 + (s1 + (1 : Int32))) - (1 : Int32)) % (16 : Int32)).toInt d1))) (hgj1 : gj1 = (if w2 = (0 : Int32) then (ownUpd (fun _ => (0 : Int32)) ((o1 + s1) % (16 : Int32)).toInt (nar .boolean (0 : Int32))) else (own_adm (ownUpd (fun _ => (0 : Int32)) ((o1 + s1) % (16 : Int32)).toInt (nar .boolean (0 : Int32))) (((o1 + (s1 + (1 : Int32))) - (1 : Int32)) % (16 : Int32)).toInt))) (o2 s2 : Int32) (d2 : Int64) (hq2 : own_isdrops gj1 w1 (s1 + (1 : Int32)).toInt.toNat o1 (s1 + (1 : Int32)) dj1 o2 s2 d2) (dj2 : Int64) (gj2 : Int → Int32) (hdj2 : dj2 = (if w3 = (0 : Int32) then d2 else (own_admD (ownUpd gj1 ((o2 + s2) % (16 : Int32)).toInt (nar .boolean (0 : Int32))) (((o2 + (s2 + (1 : Int32))) - (1 : Int32)) % (16 : Int32)).toInt d2))) (hgj2 : gj2 = (if w3 = (0 : Int32) then (ownUpd gj1 ((o2 + s2) % (16 : Int32)).toInt (nar .boolean (0 : Int32))) else (own_adm (ownUpd gj1 ((o2 + s2) % (16 : Int32)).toInt (nar .boolean (0 : Int32))) (((o2 + (s2 + (1 : Int32))) - (1 : Int32)) % (16 : Int32)).toInt))) (o3 s3 : Int32) (d3 : Int64) (hq3 : own_isdrops gj2 w1 (s2 + (1 : Int32)).toInt.toNat o2 (s2 + (1 : Int32)) dj2 o3 s3 d3) (dj3 : Int64) (gj3 : Int → Int32) (hdj3 : dj3 = (if w4 = (0 : Int32) then d3 else (own_admD (ownUpd gj2 ((o3 + s3) % (16 : Int32)).toInt (nar .boolean (0 : Int32))) (((o3 + (s3 + (1 : Int32))) - (1 : Int32)) % (16 : Int32)).toInt d3))) (hgj3 : gj3 = (if w4 = (0 : Int32) then (ownUpd gj2 ((o3 + s3) % (16 : Int32)).toInt (nar .boolean (0 : Int32))) else (own_adm (ownUpd gj2 ((o3 + s3) % (16 : Int32)).toInt (nar .boolean (0 : Int32))) (((o3 + (s3 + (1 : Int32))) - (1 : Int32)) % (16 : Int32)).toInt))) (dj4 : Int64) (gj4 : Int → Int32) (hdj4 : dj4 = (if w5 = (0 : Int32) then dj3 else (own_admD gj3 (((o3 + (s3 + (1 : Int32))) - (1 : Int32)) % (16 : Int32)).toInt dj3))) (hgj4 : gj4 = (if w5 = (0 : Int32) then gj3 else (own_adm gj3 (((o3 + (s3 + (1 : Int32))) - (1 : Int32)) % (16 : Int32)).toInt))) (w6 : Int32) (qw6 : w6 = (own_min w1 (3 : Int64)).toInt32) (w7 : Int64) (qw7 : w7 = (if w3 = (0 : Int32) then (0 : Int64) else (1 : Int64))) (w8 : Int64) (qw8 : w8 = (if w4 = (0 : Int32) then (if w5 = (0 : Int32) then (0 : Int64) else (1 : Int64)) else (1 : Int64))) (w9 : Int64) (qw9 : w9 = (if w6 = (1 : Int32) then (0 : Int64) else (if w6 = (2 : Int32) then w8 else (w7 + w8)))) : (s3 + (1 : Int32)) = w6 := by
  have b1 := own_cap w1 w1 p4 qw1
  have b2 := own_bit p4 4 w2 qw2
  have b3 := own_bit p4 8 w3 qw3
  have b4 := own_bit p4 16 w4 qw4
  have b5 := own_bit p4 32 w5 qw5
  unfold own_isdrops at hq1 hq2 hq3
  obtain rfl : o1 = _ := (congrArg (fun z => z.1) hq1).symm
  obtain rfl : s1 = _ := (congrArg (fun z => z.2.1) hq1).symm
  obtain rfl : d1 = _ := (congrArg (fun z => z.2.2) hq1).symm
  subst hdj1 hgj1
  obtain rfl : o2 = _ := (congrArg (fun z => z.1) hq2).symm
  obtain rfl : s2 = _ := (congrArg (fun z => z.2.1) hq2).symm
  obtain rfl : d2 = _ := (congrArg (fun z => z.2.2) hq2).symm
  subst hdj2 hgj2
  obtain rfl : s3 = _ := (congrArg (fun z => z.2.1) hq3).symm
  rw [qw6]
  clear hq1 hq2 hq3 hdj3 hgj3 hdj4 hgj4 qw1 qw2 qw3 qw4 qw5 qw6
  rcases b1 with rfl | rfl | rfl | rfl <;> rcases b2 with rfl | rfl <;> rcases b3 with rfl | rfl <;> rcases b4 with rfl | rfl <;> rcases b5 with rfl | rfl <;> decide +kernel

theorem own_lawB (p4 : Int32) (w1 : Int64) (qw1 : w1 = ((1 : Int64) + (p4 &&& (3 : Int32)).toInt64)) (w2 : Int32) (qw2 : w2 = (if (p4 &&& (4 : Int32)) = (0 : Int32) then (0 : Int32) else (1 : Int32))) (w3 : Int32) (qw3 : w3 = (if (p4 &&& (8 : Int32)) = (0 : Int32) then (0 : Int32) else (1 : Int32))) (w4 : Int32) (qw4 : w4 = (if (p4 &&& (16 : Int32)) = (0 : Int32) then (0 : Int32) else (1 : Int32))) (w5 : Int32) (qw5 : w5 = (if (p4 &&& (32 : Int32)) = (0 : Int32) then (0 : Int32) else (1 : Int32))) (o1 s1 : Int32) (d1 : Int64) (hq1 : own_isdrops (fun _ => (0 : Int32)) w1 (0 : Int32).toInt.toNat (0 : Int32) (0 : Int32) (0 : Int64) o1 s1 d1) (dj1 : Int64) (gj1 : Int → Int32) (hdj1 : dj1 = (if w2 = (0 : Int32) then d1 else (own_admD (ownUpd (fun _ => (0 : Int32)) ((o1 + s1) % (16 : Int32)).toInt (nar .boolean (0 : Int32))) (((o1 + (s1 + (1 : Int32))) - (1 : Int32)) % (16 : Int32)).toInt d1))) (hgj1 : gj1 = (if w2 = (0 : Int32) then (ownUpd (fun _ => (0 : Int32)) ((o1 + s1) % (16 : Int32)).toInt (nar .boolean (0 : Int32))) else (own_adm (ownUpd (fun _ => (0 : Int32)) ((o1 + s1) % (16 : Int32)).toInt (nar .boolean (0 : Int32))) (((o1 + (s1 + (1 : Int32))) - (1 : Int32)) % (16 : Int32)).toInt))) (o2 s2 : Int32) (d2 : Int64) (hq2 : own_isdrops gj1 w1 (s1 + (1 : Int32)).toInt.toNat o1 (s1 + (1 : Int32)) dj1 o2 s2 d2) (dj2 : Int64) (gj2 : Int → Int32) (hdj2 : dj2 = (if w3 = (0 : Int32) then d2 else (own_admD (ownUpd gj1 ((o2 + s2) % (16 : Int32)).toInt (nar .boolean (0 : Int32))) (((o2 + (s2 + (1 : Int32))) - (1 : Int32)) % (16 : Int32)).toInt d2))) (hgj2 : gj2 = (if w3 = (0 : Int32) then (ownUpd gj1 ((o2 + s2) % (16 : Int32)).toInt (nar .boolean (0 : Int32))) else (own_adm (ownUpd gj1 ((o2 + s2) % (16 : Int32)).toInt (nar .boolean (0 : Int32))) (((o2 + (s2 + (1 : Int32))) - (1 : Int32)) % (16 : Int32)).toInt))) (o3 s3 : Int32) (d3 : Int64) (hq3 : own_isdrops gj2 w1 (s2 + (1 : Int32)).toInt.toNat o2 (s2 + (1 : Int32)) dj2 o3 s3 d3) (dj3 : Int64) (gj3 : Int → Int32) (hdj3 : dj3 = (if w4 = (0 : Int32) then d3 else (own_admD (ownUpd gj2 ((o3 + s3) % (16 : Int32)).toInt (nar .boolean (0 : Int32))) (((o3 + (s3 + (1 : Int32))) - (1 : Int32)) % (16 : Int32)).toInt d3))) (hgj3 : gj3 = (if w4 = (0 : Int32) then (ownUpd gj2 ((o3 + s3) % (16 : Int32)).toInt (nar .boolean (0 : Int32))) else (own_adm (ownUpd gj2 ((o3 + s3) % (16 : Int32)).toInt (nar .boolean (0 : Int32))) (((o3 + (s3 + (1 : Int32))) - (1 : Int32)) % (16 : Int32)).toInt))) (dj4 : Int64) (gj4 : Int → Int32) (hdj4 : dj4 = (if w5 = (0 : Int32) then dj3 else (own_admD gj3 (((o3 + (s3 + (1 : Int32))) - (1 : Int32)) % (16 : Int32)).toInt dj3))) (hgj4 : gj4 = (if w5 = (0 : Int32) then gj3 else (own_adm gj3 (((o3 + (s3 + (1 : Int32))) - (1 : Int32)) % (16 : Int32)).toInt))) (w6 : Int32) (qw6 : w6 = (own_min w1 (3 : Int64)).toInt32) (w7 : Int64) (qw7 : w7 = (if w3 = (0 : Int32) then (0 : Int64) else (1 : Int64))) (w8 : Int64) (qw8 : w8 = (if w4 = (0 : Int32) then (if w5 = (0 : Int32) then (0 : Int64) else (1 : Int64)) else (1 : Int64))) (w9 : Int64) (qw9 : w9 = (if w6 = (1 : Int32) then (0 : Int64) else (if w6 = (2 : Int32) then w8 else (w7 + w8)))) (w10 : Int32) (qw10 : w10 = (if (own_after gj4 o3 dj4) = w9 then (1 : Int32) else (0 : Int32))) : w10 = 1 := by
  have b1 := own_cap w1 w1 p4 qw1
  have b2 := own_bit p4 4 w2 qw2
  have b3 := own_bit p4 8 w3 qw3
  have b4 := own_bit p4 16 w4 qw4
  have b5 := own_bit p4 32 w5 qw5
  unfold own_isdrops at hq1 hq2 hq3
  obtain rfl : o1 = _ := (congrArg (fun z => z.1) hq1).symm
  obtain rfl : s1 = _ := (congrArg (fun z => z.2.1) hq1).symm
  obtain rfl : d1 = _ := (congrArg (fun z => z.2.2) hq1).symm
  subst hdj1 hgj1
  obtain rfl : o2 = _ := (congrArg (fun z => z.1) hq2).symm
  obtain rfl : s2 = _ := (congrArg (fun z => z.2.1) hq2).symm
  obtain rfl : d2 = _ := (congrArg (fun z => z.2.2) hq2).symm
  subst hdj2 hgj2
  obtain rfl : o3 = _ := (congrArg (fun z => z.1) hq3).symm
  obtain rfl : s3 = _ := (congrArg (fun z => z.2.1) hq3).symm
  obtain rfl : d3 = _ := (congrArg (fun z => z.2.2) hq3).symm
  subst hdj3 hgj3
  subst hdj4 hgj4
  subst qw10 qw9 qw8 qw7 qw6
  clear hq1 hq2 hq3 qw1 qw2 qw3 qw4 qw5
  rcases b1 with rfl | rfl | rfl | rfl <;> rcases b2 with rfl | rfl <;> rcases b3 with rfl | rfl <;> rcases b4 with rfl | rfl <;> rcases b5 with rfl | rfl <;> decide +kernel

theorem pn_0 : plainFor (⟨"com/example/tynemouth/tynemouth/control/ArrivalWindowAdmitNewestPinLaw", "law", "(JJJI)Z"⟩ : MethodName) = true := plainFor_of_name (by first | (simp [plainName, overriddenIn]; done) | decide +kernel)
theorem pd_0 : parseMethodDescriptor "(JJJI)Z" = some ⟨[.long, .long, .long, .int], some .boolean⟩ := by decide +kernel
theorem ef_0 (m : MethodId) (x0 : Int64) (x1 : Int64) (x2 : Int64) (x3 : Int32) : entryFrame m #[(.long x0), (.long x1), (.long x2), (.int x3)] maxLocals = mkF m 0 #[.val (.long x0), .second, .val (.long x1), .second, .val (.long x2), .second, .val (.int x3), .unset, .unset, .unset, .unset, .unset, .unset, .unset, .unset, .unset, .unset, .unset, .unset, .unset, .unset] [] := by first | (simp [entryFrame, mkF, argsToLocals, Value.category, maxLocals]; done) | rfl
def Q0 (Z : State) (p1 : Int64) (p2 : Int64) (p3 : Int64) (p4 : Int32)  (h0 : Heap) (n0 : Nat) (v : Option Value) (h : Heap) (L : List Loc) : Prop := v = some (.int 1) ∧ Fr n0 L
set_option maxRecDepth 65536 in
set_option maxHeartbeats 40000000 in
theorem rm0 (l : Launch) (Z : State) (a0 : Array Value) (hw : ∀ d ∈ tables_1, d.before a0 Z = true) (ws : List Jvm.Cond) (p1 : Int64) (p2 : Int64) (p3 : Int64) (p4 : Int32)  (h0 : Heap) (n0 : Nat) (Z0 : n0 ≤ h0.size)  :
    MetFree l x (head1 (Jvm.Cond.code x code maxLocals ret :: ws) room_1) (fun a U => a = #[(.long p1), (.long p2), (.long p3), (.int p4)] ∧ Z.Warmed39 U.vm ∧ U.heap = h0) (fun _ _ _ _ _ => True) (fun _ U oc U' => ∃ v L, oc = .returned v ∧ Q0 Z p1 p2 p3 p4  h0 n0 v U'.heap L ∧ FrameEnd U oc U' L room_1.cells room_1.slots) := by
  refine MetFree.of_bodySF pn_0 hisR ?_
  intro p e s m args below meth c s₁ Bd hml0 hP hK
  obtain ⟨rfl, hZ, hh⟩ := hP
  have hx := Bd.exec
  have hby := Bd.bytes
  have hlk := BodyLoose.notSynchronized Bd
  have hml : c.maxLocals = 21 := hml0
  have hown : s.vm.findClass "com/example/tynemouth/tynemouth/control/ArrivalWindowAdmitNewestPinLaw" = some m.cls := findClass_of_methodNamed Bd.named
  have hnm := (name_of_methodNamed Bd.named Bd.method).1
  have X0 : Stand p l e room_1 s m #[(.long p1), (.long p2), (.long p3), (.int p4)] below meth c s₁ [] 0 0 := Stand.of_body Bd
  have e0 : s₁.heap = h0 := by rw [← hh, Bd.state]; rfl
  have N0 := Fr.nil n0
  show OwnWp p e below s room_1.cells room_1.slots (Q0 Z p1 p2 p3 p4  h0 n0) (s₁.setTop (entryFrame m #[(.long p1), (.long p2), (.long p3), (.int p4)] maxLocals))
  refine OwnWp.cast (ef_0 m p1 p2 p3 p4) ?_
  show OwnWp p e below s _ _ _ (s₁.setTop (mkF m 0 #[.val (.long p1), .second, .val (.long p2), .second, .val (.long p3), .second, .val (.int p4), .unset, .unset, .unset, .unset, .unset, .unset, .unset, .unset, .unset, .unset, .unset, .unset, .unset, .unset] []))
  obtain ⟨w1, qw1⟩ : ∃ z : Int64, z = ((1 : Int64) + (p4 &&& (3 : Int32)).toInt64) := ⟨_, rfl⟩
  refine OwnWp.step (U' := s₁.setTop (mkF m 9 #[.val (.long p1), .second, .val (.long p2), .second, .val (.long p3), .second, .val (.int p4), .val (.long w1), .second, .unset, .unset, .unset, .unset, .unset, .unset, .unset, .unset, .unset, .unset, .unset, .unset] [])) (fun t k => ?_) ?_
  · show Steps p.tables e below (s₁.setTop (mkF m 0 #[.val (.long p1), .second, .val (.long p2), .second, .val (.long p3), .second, .val (.int p4), .unset, .unset, .unset, .unset, .unset, .unset, .unset, .unset, .unset, .unset, .unset, .unset, .unset, .unset] [])) _
    refine XT.lconstV X0.here hx rfl (1 : Int64) (hb hby at_0) rfl ?_
    show Steps p.tables e below (s₁.setTop (mkF m 1 #[.val (.long p1), .second, .val (.long p2), .second, .val (.long p3), .second, .val (.int p4), .unset, .unset, .unset, .unset, .unset, .unset, .unset, .unset, .unset, .unset, .unset, .unset, .unset, .unset] [(.long (1 : Int64))])) _
    refine XS.iload X0.here hx rfl (hb hby at_1) rfl ?_
    show Steps p.tables e below (s₁.setTop (mkF m 3 #[.val (.long p1), .second, .val (.long p2), .second, .val (.long p3), .second, .val (.int p4), .unset, .unset, .unset, .unset, .unset, .unset, .unset, .unset, .unset, .unset, .unset, .unset, .unset, .unset] [(.int p4), (.long (1 : Int64))])) _
    refine XT.iconstV X0.here hx rfl (3 : Int32) (hb hby at_3) rfl ?_
    show Steps p.tables e below (s₁.setTop (mkF m 4 #[.val (.long p1), .second, .val (.long p2), .second, .val (.long p3), .second, .val (.int p4), .unset, .unset, .unset, .unset, .unset, .unset, .unset, .unset, .unset, .unset, .unset, .unset, .unset, .unset] [(.int (3 : Int32)), (.int p4), (.long (1 : Int64))])) _
    refine XS.iand X0.here hx rfl (hb hby at_4) rfl ?_
    show Steps p.tables e below (s₁.setTop (mkF m 5 #[.val (.long p1), .second, .val (.long p2), .second, .val (.long p3), .second, .val (.int p4), .unset, .unset, .unset, .unset, .unset, .unset, .unset, .unset, .unset, .unset, .unset, .unset, .unset, .unset] [(.int (p4 &&& (3 : Int32))), (.long (1 : Int64))])) _
    refine XT.i2l X0.here hx rfl (hb hby at_5) rfl ?_
    show Steps p.tables e below (s₁.setTop (mkF m 6 #[.val (.long p1), .second, .val (.long p2), .second, .val (.long p3), .second, .val (.int p4), .unset, .unset, .unset, .unset, .unset, .unset, .unset, .unset, .unset, .unset, .unset, .unset, .unset, .unset] [(.long (p4 &&& (3 : Int32)).toInt64), (.long (1 : Int64))])) _
    refine XT.ladd X0.here hx rfl (hb hby at_6) rfl ?_
    show Steps p.tables e below (s₁.setTop (mkF m 7 #[.val (.long p1), .second, .val (.long p2), .second, .val (.long p3), .second, .val (.int p4), .unset, .unset, .unset, .unset, .unset, .unset, .unset, .unset, .unset, .unset, .unset, .unset, .unset, .unset] [(.long ((1 : Int64) + (p4 &&& (3 : Int32)).toInt64))])) _
    refine XT.lstore X0.here hx rfl (hb hby at_7) rfl (l' := #[.val (.long p1), .second, .val (.long p2), .second, .val (.long p3), .second, .val (.int p4), .val (.long ((1 : Int64) + (p4 &&& (3 : Int32)).toInt64)), .second, .unset, .unset, .unset, .unset, .unset, .unset, .unset, .unset, .unset, .unset, .unset, .unset]) rfl ?_
    show Steps p.tables e below (s₁.setTop (mkF m 9 #[.val (.long p1), .second, .val (.long p2), .second, .val (.long p3), .second, .val (.int p4), .val (.long ((1 : Int64) + (p4 &&& (3 : Int32)).toInt64)), .second, .unset, .unset, .unset, .unset, .unset, .unset, .unset, .unset, .unset, .unset, .unset, .unset] [])) _
    rw [qw1] at k
    exact k
  refine OwnWp.step (U' := s₁.setTop (mkF m 13 #[.val (.long p1), .second, .val (.long p2), .second, .val (.long p3), .second, .val (.int p4), .val (.long w1), .second, .unset, .unset, .unset, .unset, .unset, .unset, .unset, .unset, .unset, .unset, .unset, .unset] [(.int (p4 &&& (4 : Int32)))])) (fun t k => ?_) ?_
  · show Steps p.tables e below (s₁.setTop (mkF m 9 #[.val (.long p1), .second, .val (.long p2), .second, .val (.long p3), .second, .val (.int p4), .val (.long w1), .second, .unset, .unset, .unset, .unset, .unset, .unset, .unset, .unset, .unset, .unset, .unset, .unset] [])) _
    refine XS.iload X0.here hx rfl (hb hby at_9) rfl ?_
    show Steps p.tables e below (s₁.setTop (mkF m 11 #[.val (.long p1), .second, .val (.long p2), .second, .val (.long p3), .second, .val (.int p4), .val (.long w1), .second, .unset, .unset, .unset, .unset, .unset, .unset, .unset, .unset, .unset, .unset, .unset, .unset] [(.int p4)])) _
    refine XT.iconstV X0.here hx rfl (4 : Int32) (hb hby at_11) rfl ?_
    show Steps p.tables e below (s₁.setTop (mkF m 12 #[.val (.long p1), .second, .val (.long p2), .second, .val (.long p3), .second, .val (.int p4), .val (.long w1), .second, .unset, .unset, .unset, .unset, .unset, .unset, .unset, .unset, .unset, .unset, .unset, .unset] [(.int (4 : Int32)), (.int p4)])) _
    refine XS.iand X0.here hx rfl (hb hby at_12) rfl ?_
    show Steps p.tables e below (s₁.setTop (mkF m 13 #[.val (.long p1), .second, .val (.long p2), .second, .val (.long p3), .second, .val (.int p4), .val (.long w1), .second, .unset, .unset, .unset, .unset, .unset, .unset, .unset, .unset, .unset, .unset, .unset, .unset] [(.int (p4 &&& (4 : Int32)))])) _
    exact k
  obtain ⟨w2, qw2⟩ : ∃ z : Int32, z = (if (p4 &&& (4 : Int32)) = (0 : Int32) then (0 : Int32) else (1 : Int32)) := ⟨_, rfl⟩
  refine OwnWp.step (U' := s₁.setTop (mkF m 21 #[.val (.long p1), .second, .val (.long p2), .second, .val (.long p3), .second, .val (.int p4), .val (.long w1), .second, .unset, .unset, .unset, .unset, .unset, .unset, .unset, .unset, .unset, .unset, .unset, .unset] [(.int w2)])) (fun t k => ?_) ?_
  · show Steps p.tables e below (s₁.setTop (mkF m 13 #[.val (.long p1), .second, .val (.long p2), .second, .val (.long p3), .second, .val (.int p4), .val (.long w1), .second, .unset, .unset, .unset, .unset, .unset, .unset, .unset, .unset, .unset, .unset, .unset, .unset] [(.int (p4 &&& (4 : Int32)))])) _
    by_cases c13_276 : (p4 &&& (4 : Int32)) = (0 : Int32)
    · refine XS.ifYes X0.here hx rfl (pc0 := 13) (pc' := 20) rfl (hb hby at_13) rfl (XT.i0_eq_t c13_276) (by decide) (by decide) ?_
      show Steps p.tables e below (s₁.setTop (mkF m 20 #[.val (.long p1), .second, .val (.long p2), .second, .val (.long p3), .second, .val (.int p4), .val (.long w1), .second, .unset, .unset, .unset, .unset, .unset, .unset, .unset, .unset, .unset, .unset, .unset, .unset] [])) _
      refine XT.iconstV X0.here hx rfl (0 : Int32) (hb hby at_20) rfl ?_
      show Steps p.tables e below (s₁.setTop (mkF m 21 #[.val (.long p1), .second, .val (.long p2), .second, .val (.long p3), .second, .val (.int p4), .val (.long w1), .second, .unset, .unset, .unset, .unset, .unset, .unset, .unset, .unset, .unset, .unset, .unset, .unset] [(.int (0 : Int32))])) _
      rw [show w2 = (0 : Int32) from by rw [qw2, if_pos c13_276]] at k
      exact k
    · refine XS.ifNo X0.here hx rfl (hb hby at_13) rfl (XT.i0_eq_f c13_276) ?_
      show Steps p.tables e below (s₁.setTop (mkF m 16 #[.val (.long p1), .second, .val (.long p2), .second, .val (.long p3), .second, .val (.int p4), .val (.long w1), .second, .unset, .unset, .unset, .unset, .unset, .unset, .unset, .unset, .unset, .unset, .unset, .unset] [])) _
      refine XT.iconstV X0.here hx rfl (1 : Int32) (hb hby at_16) rfl ?_
      show Steps p.tables e below (s₁.setTop (mkF m 17 #[.val (.long p1), .second, .val (.long p2), .second, .val (.long p3), .second, .val (.int p4), .val (.long w1), .second, .unset, .unset, .unset, .unset, .unset, .unset, .unset, .unset, .unset, .unset, .unset, .unset] [(.int (1 : Int32))])) _
      refine XS.goto X0.here hx rfl (pc0 := 17) (pc' := 21) rfl (hb hby at_17) (by decide) (by decide) ?_
      show Steps p.tables e below (s₁.setTop (mkF m 21 #[.val (.long p1), .second, .val (.long p2), .second, .val (.long p3), .second, .val (.int p4), .val (.long w1), .second, .unset, .unset, .unset, .unset, .unset, .unset, .unset, .unset, .unset, .unset, .unset, .unset] [(.int (1 : Int32))])) _
      rw [show w2 = (1 : Int32) from by rw [qw2, if_neg c13_276]] at k
      exact k
  refine OwnWp.step (U' := s₁.setTop (mkF m 28 #[.val (.long p1), .second, .val (.long p2), .second, .val (.long p3), .second, .val (.int p4), .val (.long w1), .second, .val (.int w2), .unset, .unset, .unset, .unset, .unset, .unset, .unset, .unset, .unset, .unset, .unset] [(.int (p4 &&& (8 : Int32)))])) (fun t k => ?_) ?_
  · show Steps p.tables e below (s₁.setTop (mkF m 21 #[.val (.long p1), .second, .val (.long p2), .second, .val (.long p3), .second, .val (.int p4), .val (.long w1), .second, .unset, .unset, .unset, .unset, .unset, .unset, .unset, .unset, .unset, .unset, .unset, .unset] [(.int w2)])) _
    refine XS.istore X0.here hx rfl (hb hby at_21) rfl (l' := #[.val (.long p1), .second, .val (.long p2), .second, .val (.long p3), .second, .val (.int p4), .val (.long w1), .second, .val (.int w2), .unset, .unset, .unset, .unset, .unset, .unset, .unset, .unset, .unset, .unset, .unset]) rfl ?_
    show Steps p.tables e below (s₁.setTop (mkF m 23 #[.val (.long p1), .second, .val (.long p2), .second, .val (.long p3), .second, .val (.int p4), .val (.long w1), .second, .val (.int w2), .unset, .unset, .unset, .unset, .unset, .unset, .unset, .unset, .unset, .unset, .unset] [])) _
    refine XS.iload X0.here hx rfl (hb hby at_23) rfl ?_
    show Steps p.tables e below (s₁.setTop (mkF m 25 #[.val (.long p1), .second, .val (.long p2), .second, .val (.long p3), .second, .val (.int p4), .val (.long w1), .second, .val (.int w2), .unset, .unset, .unset, .unset, .unset, .unset, .unset, .unset, .unset, .unset, .unset] [(.int p4)])) _
    refine XT.bipushV X0.here hx rfl (8 : Int32) (hb hby at_25) rfl ?_
    show Steps p.tables e below (s₁.setTop (mkF m 27 #[.val (.long p1), .second, .val (.long p2), .second, .val (.long p3), .second, .val (.int p4), .val (.long w1), .second, .val (.int w2), .unset, .unset, .unset, .unset, .unset, .unset, .unset, .unset, .unset, .unset, .unset] [(.int (8 : Int32)), (.int p4)])) _
    refine XS.iand X0.here hx rfl (hb hby at_27) rfl ?_
    show Steps p.tables e below (s₁.setTop (mkF m 28 #[.val (.long p1), .second, .val (.long p2), .second, .val (.long p3), .second, .val (.int p4), .val (.long w1), .second, .val (.int w2), .unset, .unset, .unset, .unset, .unset, .unset, .unset, .unset, .unset, .unset, .unset] [(.int (p4 &&& (8 : Int32)))])) _
    exact k
  obtain ⟨w3, qw3⟩ : ∃ z : Int32, z = (if (p4 &&& (8 : Int32)) = (0 : Int32) then (0 : Int32) else (1 : Int32)) := ⟨_, rfl⟩
  refine OwnWp.step (U' := s₁.setTop (mkF m 36 #[.val (.long p1), .second, .val (.long p2), .second, .val (.long p3), .second, .val (.int p4), .val (.long w1), .second, .val (.int w2), .unset, .unset, .unset, .unset, .unset, .unset, .unset, .unset, .unset, .unset, .unset] [(.int w3)])) (fun t k => ?_) ?_
  · show Steps p.tables e below (s₁.setTop (mkF m 28 #[.val (.long p1), .second, .val (.long p2), .second, .val (.long p3), .second, .val (.int p4), .val (.long w1), .second, .val (.int w2), .unset, .unset, .unset, .unset, .unset, .unset, .unset, .unset, .unset, .unset, .unset] [(.int (p4 &&& (8 : Int32)))])) _
    by_cases c28_277 : (p4 &&& (8 : Int32)) = (0 : Int32)
    · refine XS.ifYes X0.here hx rfl (pc0 := 28) (pc' := 35) rfl (hb hby at_28) rfl (XT.i0_eq_t c28_277) (by decide) (by decide) ?_
      show Steps p.tables e below (s₁.setTop (mkF m 35 #[.val (.long p1), .second, .val (.long p2), .second, .val (.long p3), .second, .val (.int p4), .val (.long w1), .second, .val (.int w2), .unset, .unset, .unset, .unset, .unset, .unset, .unset, .unset, .unset, .unset, .unset] [])) _
      refine XT.iconstV X0.here hx rfl (0 : Int32) (hb hby at_35) rfl ?_
      show Steps p.tables e below (s₁.setTop (mkF m 36 #[.val (.long p1), .second, .val (.long p2), .second, .val (.long p3), .second, .val (.int p4), .val (.long w1), .second, .val (.int w2), .unset, .unset, .unset, .unset, .unset, .unset, .unset, .unset, .unset, .unset, .unset] [(.int (0 : Int32))])) _
      rw [show w3 = (0 : Int32) from by rw [qw3, if_pos c28_277]] at k
      exact k
    · refine XS.ifNo X0.here hx rfl (hb hby at_28) rfl (XT.i0_eq_f c28_277) ?_
      show Steps p.tables e below (s₁.setTop (mkF m 31 #[.val (.long p1), .second, .val (.long p2), .second, .val (.long p3), .second, .val (.int p4), .val (.long w1), .second, .val (.int w2), .unset, .unset, .unset, .unset, .unset, .unset, .unset, .unset, .unset, .unset, .unset] [])) _
      refine XT.iconstV X0.here hx rfl (1 : Int32) (hb hby at_31) rfl ?_
      show Steps p.tables e below (s₁.setTop (mkF m 32 #[.val (.long p1), .second, .val (.long p2), .second, .val (.long p3), .second, .val (.int p4), .val (.long w1), .second, .val (.int w2), .unset, .unset, .unset, .unset, .unset, .unset, .unset, .unset, .unset, .unset, .unset] [(.int (1 : Int32))])) _
      refine XS.goto X0.here hx rfl (pc0 := 32) (pc' := 36) rfl (hb hby at_32) (by decide) (by decide) ?_
      show Steps p.tables e below (s₁.setTop (mkF m 36 #[.val (.long p1), .second, .val (.long p2), .second, .val (.long p3), .second, .val (.int p4), .val (.long w1), .second, .val (.int w2), .unset, .unset, .unset, .unset, .unset, .unset, .unset, .unset, .unset, .unset, .unset] [(.int (1 : Int32))])) _
      rw [show w3 = (1 : Int32) from by rw [qw3, if_neg c28_277]] at k
      exact k
  refine OwnWp.step (U' := s₁.setTop (mkF m 43 #[.val (.long p1), .second, .val (.long p2), .second, .val (.long p3), .second, .val (.int p4), .val (.long w1), .second, .val (.int w2), .val (.int w3), .unset, .unset, .unset, .unset, .unset, .unset, .unset, .unset, .unset, .unset] [(.int (p4 &&& (16 : Int32)))])) (fun t k => ?_) ?_
  · show Steps p.tables e below (s₁.setTop (mkF m 36 #[.val (.long p1), .second, .val (.long p2), .second, .val (.long p3), .second, .val (.int p4), .val (.long w1), .second, .val (.int w2), .unset, .unset, .unset, .unset, .unset, .unset, .unset, .unset, .unset, .unset, .unset] [(.int w3)])) _
    refine XS.istore X0.here hx rfl (hb hby at_36) rfl (l' := #[.val (.long p1), .second, .val (.long p2), .second, .val (.long p3), .second, .val (.int p4), .val (.long w1), .second, .val (.int w2), .val (.int w3), .unset, .unset, .unset, .unset, .unset, .unset, .unset, .unset, .unset, .unset]) rfl ?_
    show Steps p.tables e below (s₁.setTop (mkF m 38 #[.val (.long p1), .second, .val (.long p2), .second, .val (.long p3), .second, .val (.int p4), .val (.long w1), .second, .val (.int w2), .val (.int w3), .unset, .unset, .unset, .unset, .unset, .unset, .unset, .unset, .unset, .unset] [])) _
    refine XS.iload X0.here hx rfl (hb hby at_38) rfl ?_
    show Steps p.tables e below (s₁.setTop (mkF m 40 #[.val (.long p1), .second, .val (.long p2), .second, .val (.long p3), .second, .val (.int p4), .val (.long w1), .second, .val (.int w2), .val (.int w3), .unset, .unset, .unset, .unset, .unset, .unset, .unset, .unset, .unset, .unset] [(.int p4)])) _
    refine XT.bipushV X0.here hx rfl (16 : Int32) (hb hby at_40) rfl ?_
    show Steps p.tables e below (s₁.setTop (mkF m 42 #[.val (.long p1), .second, .val (.long p2), .second, .val (.long p3), .second, .val (.int p4), .val (.long w1), .second, .val (.int w2), .val (.int w3), .unset, .unset, .unset, .unset, .unset, .unset, .unset, .unset, .unset, .unset] [(.int (16 : Int32)), (.int p4)])) _
    refine XS.iand X0.here hx rfl (hb hby at_42) rfl ?_
    show Steps p.tables e below (s₁.setTop (mkF m 43 #[.val (.long p1), .second, .val (.long p2), .second, .val (.long p3), .second, .val (.int p4), .val (.long w1), .second, .val (.int w2), .val (.int w3), .unset, .unset, .unset, .unset, .unset, .unset, .unset, .unset, .unset, .unset] [(.int (p4 &&& (16 : Int32)))])) _
    exact k
  obtain ⟨w4, qw4⟩ : ∃ z : Int32, z = (if (p4 &&& (16 : Int32)) = (0 : Int32) then (0 : Int32) else (1 : Int32)) := ⟨_, rfl⟩
  refine OwnWp.step (U' := s₁.setTop (mkF m 51 #[.val (.long p1), .second, .val (.long p2), .second, .val (.long p3), .second, .val (.int p4), .val (.long w1), .second, .val (.int w2), .val (.int w3), .unset, .unset, .unset, .unset, .unset, .unset, .unset, .unset, .unset, .unset] [(.int w4)])) (fun t k => ?_) ?_
  · show Steps p.tables e below (s₁.setTop (mkF m 43 #[.val (.long p1), .second, .val (.long p2), .second, .val (.long p3), .second, .val (.int p4), .val (.long w1), .second, .val (.int w2), .val (.int w3), .unset, .unset, .unset, .unset, .unset, .unset, .unset, .unset, .unset, .unset] [(.int (p4 &&& (16 : Int32)))])) _
    by_cases c43_278 : (p4 &&& (16 : Int32)) = (0 : Int32)
    · refine XS.ifYes X0.here hx rfl (pc0 := 43) (pc' := 50) rfl (hb hby at_43) rfl (XT.i0_eq_t c43_278) (by decide) (by decide) ?_
      show Steps p.tables e below (s₁.setTop (mkF m 50 #[.val (.long p1), .second, .val (.long p2), .second, .val (.long p3), .second, .val (.int p4), .val (.long w1), .second, .val (.int w2), .val (.int w3), .unset, .unset, .unset, .unset, .unset, .unset, .unset, .unset, .unset, .unset] [])) _
      refine XT.iconstV X0.here hx rfl (0 : Int32) (hb hby at_50) rfl ?_
      show Steps p.tables e below (s₁.setTop (mkF m 51 #[.val (.long p1), .second, .val (.long p2), .second, .val (.long p3), .second, .val (.int p4), .val (.long w1), .second, .val (.int w2), .val (.int w3), .unset, .unset, .unset, .unset, .unset, .unset, .unset, .unset, .unset, .unset] [(.int (0 : Int32))])) _
      rw [show w4 = (0 : Int32) from by rw [qw4, if_pos c43_278]] at k
      exact k
    · refine XS.ifNo X0.here hx rfl (hb hby at_43) rfl (XT.i0_eq_f c43_278) ?_
      show Steps p.tables e below (s₁.setTop (mkF m 46 #[.val (.long p1), .second, .val (.long p2), .second, .val (.long p3), .second, .val (.int p4), .val (.long w1), .second, .val (.int w2), .val (.int w3), .unset, .unset, .unset, .unset, .unset, .unset, .unset, .unset, .unset, .unset] [])) _
      refine XT.iconstV X0.here hx rfl (1 : Int32) (hb hby at_46) rfl ?_
      show Steps p.tables e below (s₁.setTop (mkF m 47 #[.val (.long p1), .second, .val (.long p2), .second, .val (.long p3), .second, .val (.int p4), .val (.long w1), .second, .val (.int w2), .val (.int w3), .unset, .unset, .unset, .unset, .unset, .unset, .unset, .unset, .unset, .unset] [(.int (1 : Int32))])) _
      refine XS.goto X0.here hx rfl (pc0 := 47) (pc' := 51) rfl (hb hby at_47) (by decide) (by decide) ?_
      show Steps p.tables e below (s₁.setTop (mkF m 51 #[.val (.long p1), .second, .val (.long p2), .second, .val (.long p3), .second, .val (.int p4), .val (.long w1), .second, .val (.int w2), .val (.int w3), .unset, .unset, .unset, .unset, .unset, .unset, .unset, .unset, .unset, .unset] [(.int (1 : Int32))])) _
      rw [show w4 = (1 : Int32) from by rw [qw4, if_neg c43_278]] at k
      exact k
  refine OwnWp.step (U' := s₁.setTop (mkF m 58 #[.val (.long p1), .second, .val (.long p2), .second, .val (.long p3), .second, .val (.int p4), .val (.long w1), .second, .val (.int w2), .val (.int w3), .val (.int w4), .unset, .unset, .unset, .unset, .unset, .unset, .unset, .unset, .unset] [(.int (p4 &&& (32 : Int32)))])) (fun t k => ?_) ?_
  · show Steps p.tables e below (s₁.setTop (mkF m 51 #[.val (.long p1), .second, .val (.long p2), .second, .val (.long p3), .second, .val (.int p4), .val (.long w1), .second, .val (.int w2), .val (.int w3), .unset, .unset, .unset, .unset, .unset, .unset, .unset, .unset, .unset, .unset] [(.int w4)])) _
    refine XS.istore X0.here hx rfl (hb hby at_51) rfl (l' := #[.val (.long p1), .second, .val (.long p2), .second, .val (.long p3), .second, .val (.int p4), .val (.long w1), .second, .val (.int w2), .val (.int w3), .val (.int w4), .unset, .unset, .unset, .unset, .unset, .unset, .unset, .unset, .unset]) rfl ?_
    show Steps p.tables e below (s₁.setTop (mkF m 53 #[.val (.long p1), .second, .val (.long p2), .second, .val (.long p3), .second, .val (.int p4), .val (.long w1), .second, .val (.int w2), .val (.int w3), .val (.int w4), .unset, .unset, .unset, .unset, .unset, .unset, .unset, .unset, .unset] [])) _
    refine XS.iload X0.here hx rfl (hb hby at_53) rfl ?_
    show Steps p.tables e below (s₁.setTop (mkF m 55 #[.val (.long p1), .second, .val (.long p2), .second, .val (.long p3), .second, .val (.int p4), .val (.long w1), .second, .val (.int w2), .val (.int w3), .val (.int w4), .unset, .unset, .unset, .unset, .unset, .unset, .unset, .unset, .unset] [(.int p4)])) _
    refine XT.bipushV X0.here hx rfl (32 : Int32) (hb hby at_55) rfl ?_
    show Steps p.tables e below (s₁.setTop (mkF m 57 #[.val (.long p1), .second, .val (.long p2), .second, .val (.long p3), .second, .val (.int p4), .val (.long w1), .second, .val (.int w2), .val (.int w3), .val (.int w4), .unset, .unset, .unset, .unset, .unset, .unset, .unset, .unset, .unset] [(.int (32 : Int32)), (.int p4)])) _
    refine XS.iand X0.here hx rfl (hb hby at_57) rfl ?_
    show Steps p.tables e below (s₁.setTop (mkF m 58 #[.val (.long p1), .second, .val (.long p2), .second, .val (.long p3), .second, .val (.int p4), .val (.long w1), .second, .val (.int w2), .val (.int w3), .val (.int w4), .unset, .unset, .unset, .unset, .unset, .unset, .unset, .unset, .unset] [(.int (p4 &&& (32 : Int32)))])) _
    exact k
  obtain ⟨w5, qw5⟩ : ∃ z : Int32, z = (if (p4 &&& (32 : Int32)) = (0 : Int32) then (0 : Int32) else (1 : Int32)) := ⟨_, rfl⟩
  refine OwnWp.step (U' := s₁.setTop (mkF m 66 #[.val (.long p1), .second, .val (.long p2), .second, .val (.long p3), .second, .val (.int p4), .val (.long w1), .second, .val (.int w2), .val (.int w3), .val (.int w4), .unset, .unset, .unset, .unset, .unset, .unset, .unset, .unset, .unset] [(.int w5)])) (fun t k => ?_) ?_
  · show Steps p.tables e below (s₁.setTop (mkF m 58 #[.val (.long p1), .second, .val (.long p2), .second, .val (.long p3), .second, .val (.int p4), .val (.long w1), .second, .val (.int w2), .val (.int w3), .val (.int w4), .unset, .unset, .unset, .unset, .unset, .unset, .unset, .unset, .unset] [(.int (p4 &&& (32 : Int32)))])) _
    by_cases c58_279 : (p4 &&& (32 : Int32)) = (0 : Int32)
    · refine XS.ifYes X0.here hx rfl (pc0 := 58) (pc' := 65) rfl (hb hby at_58) rfl (XT.i0_eq_t c58_279) (by decide) (by decide) ?_
      show Steps p.tables e below (s₁.setTop (mkF m 65 #[.val (.long p1), .second, .val (.long p2), .second, .val (.long p3), .second, .val (.int p4), .val (.long w1), .second, .val (.int w2), .val (.int w3), .val (.int w4), .unset, .unset, .unset, .unset, .unset, .unset, .unset, .unset, .unset] [])) _
      refine XT.iconstV X0.here hx rfl (0 : Int32) (hb hby at_65) rfl ?_
      show Steps p.tables e below (s₁.setTop (mkF m 66 #[.val (.long p1), .second, .val (.long p2), .second, .val (.long p3), .second, .val (.int p4), .val (.long w1), .second, .val (.int w2), .val (.int w3), .val (.int w4), .unset, .unset, .unset, .unset, .unset, .unset, .unset, .unset, .unset] [(.int (0 : Int32))])) _
      rw [show w5 = (0 : Int32) from by rw [qw5, if_pos c58_279]] at k
      exact k
    · refine XS.ifNo X0.here hx rfl (hb hby at_58) rfl (XT.i0_eq_f c58_279) ?_
      show Steps p.tables e below (s₁.setTop (mkF m 61 #[.val (.long p1), .second, .val (.long p2), .second, .val (.long p3), .second, .val (.int p4), .val (.long w1), .second, .val (.int w2), .val (.int w3), .val (.int w4), .unset, .unset, .unset, .unset, .unset, .unset, .unset, .unset, .unset] [])) _
      refine XT.iconstV X0.here hx rfl (1 : Int32) (hb hby at_61) rfl ?_
      show Steps p.tables e below (s₁.setTop (mkF m 62 #[.val (.long p1), .second, .val (.long p2), .second, .val (.long p3), .second, .val (.int p4), .val (.long w1), .second, .val (.int w2), .val (.int w3), .val (.int w4), .unset, .unset, .unset, .unset, .unset, .unset, .unset, .unset, .unset] [(.int (1 : Int32))])) _
      refine XS.goto X0.here hx rfl (pc0 := 62) (pc' := 66) rfl (hb hby at_62) (by decide) (by decide) ?_
      show Steps p.tables e below (s₁.setTop (mkF m 66 #[.val (.long p1), .second, .val (.long p2), .second, .val (.long p3), .second, .val (.int p4), .val (.long w1), .second, .val (.int w2), .val (.int w3), .val (.int w4), .unset, .unset, .unset, .unset, .unset, .unset, .unset, .unset, .unset] [(.int (1 : Int32))])) _
      rw [show w5 = (1 : Int32) from by rw [qw5, if_neg c58_279]] at k
      exact k
  refine OwnWp.step (U' := s₁.setTop (mkF m 68 #[.val (.long p1), .second, .val (.long p2), .second, .val (.long p3), .second, .val (.int p4), .val (.long w1), .second, .val (.int w2), .val (.int w3), .val (.int w4), .val (.int w5), .unset, .unset, .unset, .unset, .unset, .unset, .unset, .unset] [])) (fun t k => ?_) ?_
  · show Steps p.tables e below (s₁.setTop (mkF m 66 #[.val (.long p1), .second, .val (.long p2), .second, .val (.long p3), .second, .val (.int p4), .val (.long w1), .second, .val (.int w2), .val (.int w3), .val (.int w4), .unset, .unset, .unset, .unset, .unset, .unset, .unset, .unset, .unset] [(.int w5)])) _
    refine XS.istore X0.here hx rfl (hb hby at_66) rfl (l' := #[.val (.long p1), .second, .val (.long p2), .second, .val (.long p3), .second, .val (.int p4), .val (.long w1), .second, .val (.int w2), .val (.int w3), .val (.int w4), .val (.int w5), .unset, .unset, .unset, .unset, .unset, .unset, .unset, .unset]) rfl ?_
    show Steps p.tables e below (s₁.setTop (mkF m 68 #[.val (.long p1), .second, .val (.long p2), .second, .val (.long p3), .second, .val (.int p4), .val (.long w1), .second, .val (.int w2), .val (.int w3), .val (.int w4), .val (.int w5), .unset, .unset, .unset, .unset, .unset, .unset, .unset, .unset] [])) _
    exact k
  obtain ⟨T280, h280, X280, e280, E280, A280, D280, -, st280⟩ := newO X0 hx hZ hown (hw _ (List.mem_of_getElem? (i := 0) rfl)) (hw _ (List.mem_of_getElem? (i := 1) rfl)) (hw _ (List.mem_of_getElem? (i := 2) rfl)) e0 (g := (mkF m 68 #[.val (.long p1), .second, .val (.long p2), .second, .val (.long p3), .second, .val (.int p4), .val (.long w1), .second, .val (.int w2), .val (.int w3), .val (.int w4), .val (.int w5), .unset, .unset, .unset, .unset, .unset, .unset, .unset, .unset] [])) rfl (hb hby at_68) (by decide) (by decide)
  obtain ⟨ad280, ga280⟩ : ∃ z, z = h0.size := ⟨_, rfl⟩
  rw [← ga280] at A280 D280 st280
  refine OwnWp.step st280 ?_
  have Z280 : n0 ≤ h280.size := Nat.le_trans Z0 E280.1
  have b280 : n0 ≤ ad280 := Nat.le_trans Z0 (Nat.le_of_eq ga280.symm)
  have F281 : Fld Z h280 ad280 "com/example/tynemouth/tynemouth/control/ArrivalWindow" "instants" "[J" .null := D280 (Or.inl (hw _ (List.mem_of_getElem? (i := 11) rfl))) (ty := (.array .long)) (by decide)
  have F282 : Fld Z h280 ad280 "com/example/tynemouth/tynemouth/control/ArrivalWindow" "admitted" "[Z" .null := D280 (Or.inl (hw _ (List.mem_of_getElem? (i := 14) rfl))) (ty := (.array .boolean)) (by decide)
  have F283 : Fld Z h280 ad280 "com/example/tynemouth/tynemouth/control/ArrivalWindow" "oldest" "I" (.int (0 : Int32)) := D280 (Or.inl (hw _ (List.mem_of_getElem? (i := 23) rfl))) (ty := .int) (by decide)
  have F284 : Fld Z h280 ad280 "com/example/tynemouth/tynemouth/control/ArrivalWindow" "size" "I" (.int (0 : Int32)) := D280 (Or.inl (hw _ (List.mem_of_getElem? (i := 21) rfl))) (ty := .int) (by decide)
  have F285 : Fld Z h280 ad280 "com/example/tynemouth/tynemouth/control/ArrivalWindow" "admittedHeld" "J" (.long (0 : Int64)) := D280 (Or.inl (hw _ (List.mem_of_getElem? (i := 40) rfl))) (ty := .long) (by decide)
  show OwnWp p e below s _ _ _ (T280.setTop (mkF m 71 #[.val (.long p1), .second, .val (.long p2), .second, .val (.long p3), .second, .val (.int p4), .val (.long w1), .second, .val (.int w2), .val (.int w3), .val (.int w4), .val (.int w5), .unset, .unset, .unset, .unset, .unset, .unset, .unset, .unset] [(.ref ad280)]))
  refine OwnWp.step (U' := T280.setTop (mkF m 72 #[.val (.long p1), .second, .val (.long p2), .second, .val (.long p3), .second, .val (.int p4), .val (.long w1), .second, .val (.int w2), .val (.int w3), .val (.int w4), .val (.int w5), .unset, .unset, .unset, .unset, .unset, .unset, .unset, .unset] [(.ref ad280), (.ref ad280)])) (fun t k => ?_) ?_
  · show Steps p.tables e below (T280.setTop (mkF m 71 #[.val (.long p1), .second, .val (.long p2), .second, .val (.long p3), .second, .val (.int p4), .val (.long w1), .second, .val (.int w2), .val (.int w3), .val (.int w4), .val (.int w5), .unset, .unset, .unset, .unset, .unset, .unset, .unset, .unset] [(.ref ad280)])) _
    refine XS.dup X280.here hx rfl (hb hby at_71) rfl rfl ?_
    show Steps p.tables e below (T280.setTop (mkF m 72 #[.val (.long p1), .second, .val (.long p2), .second, .val (.long p3), .second, .val (.int p4), .val (.long w1), .second, .val (.int w2), .val (.int w3), .val (.int w4), .val (.int w5), .unset, .unset, .unset, .unset, .unset, .unset, .unset, .unset] [(.ref ad280), (.ref ad280)])) _
    exact k
  obtain ⟨_, _, ⟨T286, L286, k286, n286⟩, -, X286, ⟨Lc286, hQ286, l286, y286, z286⟩, st286⟩ := X280.specialBack hx (y := (⟨"com/example/tynemouth/tynemouth/control/ArrivalWindow", "<init>", "()V"⟩ : MethodName)) rfl hown (mvT hZ (hw _ (List.mem_of_getElem? (i := 3) rfl))) (mvT hZ (hw _ (List.mem_of_getElem? (i := 4) rfl))) (mvT hZ (hw _ (List.mem_of_getElem? (i := 5) rfl))) (by decide) (backOf (W := 1) (rm1 l Z a0 hw [] ad280 h280 n0 Z280 b280 A280 F281 F282 F283 F284 F285) hZ (hw _ (List.mem_of_getElem? (i := 5) rfl)) (hw _ (List.mem_of_getElem? (i := 2) rfl)) (by decide) (by decide)) (g := (mkF m 72 #[.val (.long p1), .second, .val (.long p2), .second, .val (.long p3), .second, .val (.int p4), .val (.long w1), .second, .val (.int w2), .val (.int w3), .val (.int w4), .val (.int w5), .unset, .unset, .unset, .unset, .unset, .unset, .unset, .unset] [(.ref ad280), (.ref ad280)])) rfl (by rw [hml]; rfl) (Steps.refl _) (a := ad280) (argsL := []) (rest := [(.ref ad280)]) (lenOf pd_1 rfl) rfl (by show 2 * 0 + _ ≤ _; exact Nat.le_of_eq rfl) (hb hby at_72) (fun _ _ => ⟨rfl, e280, (by dsimp only [Pt.cells]; decide), (by dsimp only [Pt.slots]; decide)⟩)
  dsimp only [Pt.U, Pt.locs, Pt.cells, Pt.slots] at X286 l286 y286 z286 st286 hQ286
  subst l286 y286 z286
  obtain ⟨rfl, Nc286, Kc286, ⟨ba286, bb286, la286, lb286, na286, nb286, nc286, fa286, fb286, fc286, fd286, fe286, ga286, gb286⟩⟩ := hQ286
  have N286 := Fr.app N0 Nc286
  refine OwnWp.go st286 ?_
  have Z286 : n0 ≤ T286.heap.size := Nat.le_trans Z280 Kc286.1
  have f287 := Exa.keep A280 Kc286
  show OwnWp p e below s _ _ _ (T286.setTop (mkF m 75 #[.val (.long p1), .second, .val (.long p2), .second, .val (.long p3), .second, .val (.int p4), .val (.long w1), .second, .val (.int w2), .val (.int w3), .val (.int w4), .val (.int w5), .unset, .unset, .unset, .unset, .unset, .unset, .unset, .unset] [(.ref ad280)]))
  have hob0 : 0 ≤ (0 : Int32).toInt ∧ (0 : Int32).toInt < 16 := by decide
  have hsb0 : 0 ≤ (0 : Int32).toInt ∧ (0 : Int32).toInt ≤ 0 := by decide
  refine OwnWp.step (U' := T286.setTop (mkF m 82 #[.val (.long p1), .second, .val (.long p2), .second, .val (.long p3), .second, .val (.int p4), .val (.long w1), .second, .val (.int w2), .val (.int w3), .val (.int w4), .val (.int w5), .val (.ref ad280), .unset, .unset, .unset, .unset, .unset, .unset, .unset] [(.long w1), (.long p1), (.ref ad280)])) (fun t k => ?_) ?_
  · show Steps p.tables e below (T286.setTop (mkF m 75 #[.val (.long p1), .second, .val (.long p2), .second, .val (.long p3), .second, .val (.int p4), .val (.long w1), .second, .val (.int w2), .val (.int w3), .val (.int w4), .val (.int w5), .unset, .unset, .unset, .unset, .unset, .unset, .unset, .unset] [(.ref ad280)])) _
    refine XS.astore X286.here hx rfl (hb hby at_75) rfl rfl (l' := #[.val (.long p1), .second, .val (.long p2), .second, .val (.long p3), .second, .val (.int p4), .val (.long w1), .second, .val (.int w2), .val (.int w3), .val (.int w4), .val (.int w5), .val (.ref ad280), .unset, .unset, .unset, .unset, .unset, .unset, .unset]) rfl ?_
    show Steps p.tables e below (T286.setTop (mkF m 77 #[.val (.long p1), .second, .val (.long p2), .second, .val (.long p3), .second, .val (.int p4), .val (.long w1), .second, .val (.int w2), .val (.int w3), .val (.int w4), .val (.int w5), .val (.ref ad280), .unset, .unset, .unset, .unset, .unset, .unset, .unset] [])) _
    refine XS.aload X286.here hx rfl (hb hby at_77) rfl rfl ?_
    show Steps p.tables e below (T286.setTop (mkF m 79 #[.val (.long p1), .second, .val (.long p2), .second, .val (.long p3), .second, .val (.int p4), .val (.long w1), .second, .val (.int w2), .val (.int w3), .val (.int w4), .val (.int w5), .val (.ref ad280), .unset, .unset, .unset, .unset, .unset, .unset, .unset] [(.ref ad280)])) _
    refine XT.lloadN X286.here hx rfl (hb hby at_79) rfl ?_
    show Steps p.tables e below (T286.setTop (mkF m 80 #[.val (.long p1), .second, .val (.long p2), .second, .val (.long p3), .second, .val (.int p4), .val (.long w1), .second, .val (.int w2), .val (.int w3), .val (.int w4), .val (.int w5), .val (.ref ad280), .unset, .unset, .unset, .unset, .unset, .unset, .unset] [(.long p1), (.ref ad280)])) _
    refine XT.lload X286.here hx rfl (hb hby at_80) rfl ?_
    show Steps p.tables e below (T286.setTop (mkF m 82 #[.val (.long p1), .second, .val (.long p2), .second, .val (.long p3), .second, .val (.int p4), .val (.long w1), .second, .val (.int w2), .val (.int w3), .val (.int w4), .val (.int w5), .val (.ref ad280), .unset, .unset, .unset, .unset, .unset, .unset, .unset] [(.long w1), (.long p1), (.ref ad280)])) _
    exact k
  obtain ⟨cq293, kq293, qa293, qb293, qc293⟩ := isOf hZ (rfl : T286.heap = T286.heap) f287
  obtain ⟨_, _, ⟨T293, L293, k293, n293⟩, -, X293, ⟨Lc293, hQ293, l293, y293, z293⟩, st293⟩ := X286.virtualBack hx (y := (⟨"com/example/tynemouth/tynemouth/control/ArrivalWindow", "add", "(JJ)V"⟩ : MethodName)) (z := (⟨"com/example/tynemouth/tynemouth/control/ArrivalWindow", "add", "(JJ)V"⟩ : MethodName)) hown (mvT hZ (hw _ (List.mem_of_getElem? (i := 15) rfl))) (mvT hZ (hw _ (List.mem_of_getElem? (i := 16) rfl))) (notFace_of_selects (args := #[]) (mvT hZ (hw _ (List.mem_of_getElem? (i := 18) rfl)))) (mvT hZ (hw _ (List.mem_of_getElem? (i := 18) rfl))) (mvT hZ (hw _ (List.mem_of_getElem? (i := 17) rfl))) (by decide) (backOf (W := 0) (rm3 l Z a0 hw [] ad280 p1 w1 ba286 bb286 (fun _ => (0 : Int64)) (fun _ => (0 : Int32)) (0 : Int32) (0 : Int32) (0 : Int64) T286.heap n0 Z286 b280 la286 lb286 na286 nb286 nc286 f287 fa286 fb286 fc286 fd286 fe286 ga286 gb286 hob0 ⟨hsb0.1, by omega⟩) hZ (hw _ (List.mem_of_getElem? (i := 19) rfl)) (hw _ (List.mem_of_getElem? (i := 2) rfl)) (by decide) (by decide)) qa293 qc293 (g := (mkF m 82 #[.val (.long p1), .second, .val (.long p2), .second, .val (.long p3), .second, .val (.int p4), .val (.long w1), .second, .val (.int w2), .val (.int w3), .val (.int w4), .val (.int w5), .val (.ref ad280), .unset, .unset, .unset, .unset, .unset, .unset, .unset] [(.long w1), (.long p1), (.ref ad280)])) rfl (by rw [hml]; rfl) (Steps.refl _) (argsL := [(.long p1), (.long w1)]) (rest := []) (lenOf pd_3 rfl) rfl (by show 2 * 0 + _ ≤ _; exact Nat.le_of_eq rfl) (hb hby at_82) (fun _ _ => ⟨rfl, (rfl : T286.heap = T286.heap), (by dsimp only [Pt.cells]; decide), (by dsimp only [Pt.slots]; decide)⟩)
  dsimp only [Pt.U, Pt.locs, Pt.cells, Pt.slots] at X293 l293 y293 z293 st293 hQ293
  subst l293 y293 z293
  obtain ⟨rfl, Nc293, Kc293, ⟨o1, s1, d1, fi1, hq1, ho1, hs1, fa293, fb293, fc293, fd293, fe293, ga293, gb293⟩⟩ := hQ293
  have N293 := Fr.app N286 Nc293
  refine OwnWp.go st293 ?_
  have Z293 : n0 ≤ T293.heap.size := Nat.le_trans Z286 Kc293.1
  have f294 := Exa.keep f287 Kc293
  show OwnWp p e below s _ _ _ (T293.setTop (mkF m 85 #[.val (.long p1), .second, .val (.long p2), .second, .val (.long p3), .second, .val (.int p4), .val (.long w1), .second, .val (.int w2), .val (.int w3), .val (.int w4), .val (.int w5), .val (.ref ad280), .unset, .unset, .unset, .unset, .unset, .unset, .unset] []))
  have hsp1 : 0 ≤ (s1 + (1 : Int32)).toInt ∧ (s1 + (1 : Int32)).toInt ≤ 1 ∧ 1 ≤ (s1 + (1 : Int32)).toInt := own_sp s1 0 1 (by decide) (by decide) ⟨hs1.1, by have h9 := hs1.2; have h8 := hsb0.2; omega⟩
  refine OwnWp.step (U' := T293.setTop (mkF m 87 #[.val (.long p1), .second, .val (.long p2), .second, .val (.long p3), .second, .val (.int p4), .val (.long w1), .second, .val (.int w2), .val (.int w3), .val (.int w4), .val (.int w5), .val (.ref ad280), .unset, .unset, .unset, .unset, .unset, .unset, .unset] [(.int w2)])) (fun t k => ?_) ?_
  · show Steps p.tables e below (T293.setTop (mkF m 85 #[.val (.long p1), .second, .val (.long p2), .second, .val (.long p3), .second, .val (.int p4), .val (.long w1), .second, .val (.int w2), .val (.int w3), .val (.int w4), .val (.int w5), .val (.ref ad280), .unset, .unset, .unset, .unset, .unset, .unset, .unset] [])) _
    refine XS.iload X293.here hx rfl (hb hby at_85) rfl ?_
    show Steps p.tables e below (T293.setTop (mkF m 87 #[.val (.long p1), .second, .val (.long p2), .second, .val (.long p3), .second, .val (.int p4), .val (.long w1), .second, .val (.int w2), .val (.int w3), .val (.int w4), .val (.int w5), .val (.ref ad280), .unset, .unset, .unset, .unset, .unset, .unset, .unset] [(.int w2)])) _
    exact k
  have J1 : ∀ (T302 : State) (h302 : Heap) (L302 : List Loc) (dj1 : Int64) (gj1 : Int → Int32) (X302 : Stand p l e room_1 s m #[(.long p1), (.long p2), (.long p3), (.int p4)] below meth c T302 L302 (0 + 1 + 2) (0 + 5 + 32)) (e302 : T302.heap = h302) (N302 : Fr n0 L302) (Z302 : n0 ≤ h302.size) (f303 : Exa Z h302 ad280 "com/example/tynemouth/tynemouth/control/ArrivalWindow") (f304 : Fld Z h302 ad280 "com/example/tynemouth/tynemouth/control/ArrivalWindow" "instants" "[J" (.ref ba286)) (f305 : Fld Z h302 ad280 "com/example/tynemouth/tynemouth/control/ArrivalWindow" "admitted" "[Z" (.ref bb286)) (f306 : Fld Z h302 ad280 "com/example/tynemouth/tynemouth/control/ArrivalWindow" "oldest" "I" (.int o1)) (f307 : Fld Z h302 ad280 "com/example/tynemouth/tynemouth/control/ArrivalWindow" "size" "I" (.int (s1 + (1 : Int32)))) (f308 : Fld Z h302 ad280 "com/example/tynemouth/tynemouth/control/ArrivalWindow" "admittedHeld" "J" (.long dj1)) (f309 : OwnA Z h302 ba286 .long (16 : Int32) (fun i => .long (fi1 i))) (f310 : OwnA Z h302 bb286 .boolean (16 : Int32) (fun i => .int (gj1 i))) (hdj1 : dj1 = (if w2 = (0 : Int32) then d1 else (own_admD (ownUpd (fun _ => (0 : Int32)) ((o1 + s1) % (16 : Int32)).toInt (nar .boolean (0 : Int32))) (((o1 + (s1 + (1 : Int32))) - (1 : Int32)) % (16 : Int32)).toInt d1))) (hgj1 : gj1 = (if w2 = (0 : Int32) then (ownUpd (fun _ => (0 : Int32)) ((o1 + s1) % (16 : Int32)).toInt (nar .boolean (0 : Int32))) else (own_adm (ownUpd (fun _ => (0 : Int32)) ((o1 + s1) % (16 : Int32)).toInt (nar .boolean (0 : Int32))) (((o1 + (s1 + (1 : Int32))) - (1 : Int32)) % (16 : Int32)).toInt))), OwnWp p e below s room_1.cells room_1.slots (Q0 Z p1 p2 p3 p4  h0 n0) (T302.setTop (mkF m 95 #[.val (.long p1), .second, .val (.long p2), .second, .val (.long p3), .second, .val (.int p4), .val (.long w1), .second, .val (.int w2), .val (.int w3), .val (.int w4), .val (.int w5), .val (.ref ad280), .unset, .unset, .unset, .unset, .unset, .unset, .unset] [])) := by
    intro T302 h302 L302 dj1 gj1 X302 e302 N302 Z302 f303 f304 f305 f306 f307 f308 f309 f310 hdj1 hgj1
    refine OwnWp.step (U' := T302.setTop (mkF m 100 #[.val (.long p1), .second, .val (.long p2), .second, .val (.long p3), .second, .val (.int p4), .val (.long w1), .second, .val (.int w2), .val (.int w3), .val (.int w4), .val (.int w5), .val (.ref ad280), .unset, .unset, .unset, .unset, .unset, .unset, .unset] [(.long w1), (.long p2), (.ref ad280)])) (fun t k => ?_) ?_
    · show Steps p.tables e below (T302.setTop (mkF m 95 #[.val (.long p1), .second, .val (.long p2), .second, .val (.long p3), .second, .val (.int p4), .val (.long w1), .second, .val (.int w2), .val (.int w3), .val (.int w4), .val (.int w5), .val (.ref ad280), .unset, .unset, .unset, .unset, .unset, .unset, .unset] [])) _
      refine XS.aload X302.here hx rfl (hb hby at_95) rfl rfl ?_
      show Steps p.tables e below (T302.setTop (mkF m 97 #[.val (.long p1), .second, .val (.long p2), .second, .val (.long p3), .second, .val (.int p4), .val (.long w1), .second, .val (.int w2), .val (.int w3), .val (.int w4), .val (.int w5), .val (.ref ad280), .unset, .unset, .unset, .unset, .unset, .unset, .unset] [(.ref ad280)])) _
      refine XT.lloadN X302.here hx rfl (hb hby at_97) rfl ?_
      show Steps p.tables e below (T302.setTop (mkF m 98 #[.val (.long p1), .second, .val (.long p2), .second, .val (.long p3), .second, .val (.int p4), .val (.long w1), .second, .val (.int w2), .val (.int w3), .val (.int w4), .val (.int w5), .val (.ref ad280), .unset, .unset, .unset, .unset, .unset, .unset, .unset] [(.long p2), (.ref ad280)])) _
      refine XT.lload X302.here hx rfl (hb hby at_98) rfl ?_
      show Steps p.tables e below (T302.setTop (mkF m 100 #[.val (.long p1), .second, .val (.long p2), .second, .val (.long p3), .second, .val (.int p4), .val (.long w1), .second, .val (.int w2), .val (.int w3), .val (.int w4), .val (.int w5), .val (.ref ad280), .unset, .unset, .unset, .unset, .unset, .unset, .unset] [(.long w1), (.long p2), (.ref ad280)])) _
      exact k
    obtain ⟨cq311, kq311, qa311, qb311, qc311⟩ := isOf hZ e302 f303
    obtain ⟨_, _, ⟨T311, L311, k311, n311⟩, -, X311, ⟨Lc311, hQ311, l311, y311, z311⟩, st311⟩ := X302.virtualBack hx (y := (⟨"com/example/tynemouth/tynemouth/control/ArrivalWindow", "add", "(JJ)V"⟩ : MethodName)) (z := (⟨"com/example/tynemouth/tynemouth/control/ArrivalWindow", "add", "(JJ)V"⟩ : MethodName)) hown (mvT hZ (hw _ (List.mem_of_getElem? (i := 15) rfl))) (mvT hZ (hw _ (List.mem_of_getElem? (i := 16) rfl))) (notFace_of_selects (args := #[]) (mvT hZ (hw _ (List.mem_of_getElem? (i := 18) rfl)))) (mvT hZ (hw _ (List.mem_of_getElem? (i := 18) rfl))) (mvT hZ (hw _ (List.mem_of_getElem? (i := 17) rfl))) (by decide) (backOf (W := 0) (rm3 l Z a0 hw [] ad280 p2 w1 ba286 bb286 fi1 gj1 o1 (s1 + (1 : Int32)) dj1 h302 n0 Z302 b280 la286 lb286 na286 nb286 nc286 f303 f304 f305 f306 f307 f308 f309 f310 ho1 ⟨hsp1.1, by omega⟩) hZ (hw _ (List.mem_of_getElem? (i := 19) rfl)) (hw _ (List.mem_of_getElem? (i := 2) rfl)) (by decide) (by decide)) qa311 qc311 (g := (mkF m 100 #[.val (.long p1), .second, .val (.long p2), .second, .val (.long p3), .second, .val (.int p4), .val (.long w1), .second, .val (.int w2), .val (.int w3), .val (.int w4), .val (.int w5), .val (.ref ad280), .unset, .unset, .unset, .unset, .unset, .unset, .unset] [(.long w1), (.long p2), (.ref ad280)])) rfl (by rw [hml]; rfl) (Steps.refl _) (argsL := [(.long p2), (.long w1)]) (rest := []) (lenOf pd_3 rfl) rfl (by show 2 * 0 + _ ≤ _; exact Nat.le_of_eq rfl) (hb hby at_100) (fun _ _ => ⟨rfl, e302, (by dsimp only [Pt.cells]; decide), (by dsimp only [Pt.slots]; decide)⟩)
    dsimp only [Pt.U, Pt.locs, Pt.cells, Pt.slots] at X311 l311 y311 z311 st311 hQ311
    subst l311 y311 z311
    obtain ⟨rfl, Nc311, Kc311, ⟨o2, s2, d2, fi2, hq2, ho2, hs2, fa311, fb311, fc311, fd311, fe311, ga311, gb311⟩⟩ := hQ311
    have N311 := Fr.app N302 Nc311
    refine OwnWp.go st311 ?_
    have Z311 : n0 ≤ T311.heap.size := Nat.le_trans Z302 Kc311.1
    have f312 := Exa.keep f303 Kc311
    show OwnWp p e below s _ _ _ (T311.setTop (mkF m 103 #[.val (.long p1), .second, .val (.long p2), .second, .val (.long p3), .second, .val (.int p4), .val (.long w1), .second, .val (.int w2), .val (.int w3), .val (.int w4), .val (.int w5), .val (.ref ad280), .unset, .unset, .unset, .unset, .unset, .unset, .unset] []))
    have hsp2 : 0 ≤ (s2 + (1 : Int32)).toInt ∧ (s2 + (1 : Int32)).toInt ≤ 2 ∧ 1 ≤ (s2 + (1 : Int32)).toInt := own_sp s2 1 2 (by decide) (by decide) ⟨hs2.1, by have h9 := hs2.2; have h8 := hsp1.2; omega⟩
    refine OwnWp.step (U' := T311.setTop (mkF m 105 #[.val (.long p1), .second, .val (.long p2), .second, .val (.long p3), .second, .val (.int p4), .val (.long w1), .second, .val (.int w2), .val (.int w3), .val (.int w4), .val (.int w5), .val (.ref ad280), .unset, .unset, .unset, .unset, .unset, .unset, .unset] [(.int w3)])) (fun t k => ?_) ?_
    · show Steps p.tables e below (T311.setTop (mkF m 103 #[.val (.long p1), .second, .val (.long p2), .second, .val (.long p3), .second, .val (.int p4), .val (.long w1), .second, .val (.int w2), .val (.int w3), .val (.int w4), .val (.int w5), .val (.ref ad280), .unset, .unset, .unset, .unset, .unset, .unset, .unset] [])) _
      refine XS.iload X311.here hx rfl (hb hby at_103) rfl ?_
      show Steps p.tables e below (T311.setTop (mkF m 105 #[.val (.long p1), .second, .val (.long p2), .second, .val (.long p3), .second, .val (.int p4), .val (.long w1), .second, .val (.int w2), .val (.int w3), .val (.int w4), .val (.int w5), .val (.ref ad280), .unset, .unset, .unset, .unset, .unset, .unset, .unset] [(.int w3)])) _
      exact k
    have J2 : ∀ (T320 : State) (h320 : Heap) (L320 : List Loc) (dj2 : Int64) (gj2 : Int → Int32) (X320 : Stand p l e room_1 s m #[(.long p1), (.long p2), (.long p3), (.int p4)] below meth c T320 L320 (0 + 1 + 2) (0 + 5 + 32)) (e320 : T320.heap = h320) (N320 : Fr n0 L320) (Z320 : n0 ≤ h320.size) (f321 : Exa Z h320 ad280 "com/example/tynemouth/tynemouth/control/ArrivalWindow") (f322 : Fld Z h320 ad280 "com/example/tynemouth/tynemouth/control/ArrivalWindow" "instants" "[J" (.ref ba286)) (f323 : Fld Z h320 ad280 "com/example/tynemouth/tynemouth/control/ArrivalWindow" "admitted" "[Z" (.ref bb286)) (f324 : Fld Z h320 ad280 "com/example/tynemouth/tynemouth/control/ArrivalWindow" "oldest" "I" (.int o2)) (f325 : Fld Z h320 ad280 "com/example/tynemouth/tynemouth/control/ArrivalWindow" "size" "I" (.int (s2 + (1 : Int32)))) (f326 : Fld Z h320 ad280 "com/example/tynemouth/tynemouth/control/ArrivalWindow" "admittedHeld" "J" (.long dj2)) (f327 : OwnA Z h320 ba286 .long (16 : Int32) (fun i => .long (fi2 i))) (f328 : OwnA Z h320 bb286 .boolean (16 : Int32) (fun i => .int (gj2 i))) (hdj2 : dj2 = (if w3 = (0 : Int32) then d2 else (own_admD (ownUpd gj1 ((o2 + s2) % (16 : Int32)).toInt (nar .boolean (0 : Int32))) (((o2 + (s2 + (1 : Int32))) - (1 : Int32)) % (16 : Int32)).toInt d2))) (hgj2 : gj2 = (if w3 = (0 : Int32) then (ownUpd gj1 ((o2 + s2) % (16 : Int32)).toInt (nar .boolean (0 : Int32))) else (own_adm (ownUpd gj1 ((o2 + s2) % (16 : Int32)).toInt (nar .boolean (0 : Int32))) (((o2 + (s2 + (1 : Int32))) - (1 : Int32)) % (16 : Int32)).toInt))), OwnWp p e below s room_1.cells room_1.slots (Q0 Z p1 p2 p3 p4  h0 n0) (T320.setTop (mkF m 113 #[.val (.long p1), .second, .val (.long p2), .second, .val (.long p3), .second, .val (.int p4), .val (.long w1), .second, .val (.int w2), .val (.int w3), .val (.int w4), .val (.int w5), .val (.ref ad280), .unset, .unset, .unset, .unset, .unset, .unset, .unset] [])) := by
      intro T320 h320 L320 dj2 gj2 X320 e320 N320 Z320 f321 f322 f323 f324 f325 f326 f327 f328 hdj2 hgj2
      refine OwnWp.step (U' := T320.setTop (mkF m 119 #[.val (.long p1), .second, .val (.long p2), .second, .val (.long p3), .second, .val (.int p4), .val (.long w1), .second, .val (.int w2), .val (.int w3), .val (.int w4), .val (.int w5), .val (.ref ad280), .unset, .unset, .unset, .unset, .unset, .unset, .unset] [(.long w1), (.long p3), (.ref ad280)])) (fun t k => ?_) ?_
      · show Steps p.tables e below (T320.setTop (mkF m 113 #[.val (.long p1), .second, .val (.long p2), .second, .val (.long p3), .second, .val (.int p4), .val (.long w1), .second, .val (.int w2), .val (.int w3), .val (.int w4), .val (.int w5), .val (.ref ad280), .unset, .unset, .unset, .unset, .unset, .unset, .unset] [])) _
        refine XS.aload X320.here hx rfl (hb hby at_113) rfl rfl ?_
        show Steps p.tables e below (T320.setTop (mkF m 115 #[.val (.long p1), .second, .val (.long p2), .second, .val (.long p3), .second, .val (.int p4), .val (.long w1), .second, .val (.int w2), .val (.int w3), .val (.int w4), .val (.int w5), .val (.ref ad280), .unset, .unset, .unset, .unset, .unset, .unset, .unset] [(.ref ad280)])) _
        refine XT.lload X320.here hx rfl (hb hby at_115) rfl ?_
        show Steps p.tables e below (T320.setTop (mkF m 117 #[.val (.long p1), .second, .val (.long p2), .second, .val (.long p3), .second, .val (.int p4), .val (.long w1), .second, .val (.int w2), .val (.int w3), .val (.int w4), .val (.int w5), .val (.ref ad280), .unset, .unset, .unset, .unset, .unset, .unset, .unset] [(.long p3), (.ref ad280)])) _
        refine XT.lload X320.here hx rfl (hb hby at_117) rfl ?_
        show Steps p.tables e below (T320.setTop (mkF m 119 #[.val (.long p1), .second, .val (.long p2), .second, .val (.long p3), .second, .val (.int p4), .val (.long w1), .second, .val (.int w2), .val (.int w3), .val (.int w4), .val (.int w5), .val (.ref ad280), .unset, .unset, .unset, .unset, .unset, .unset, .unset] [(.long w1), (.long p3), (.ref ad280)])) _
        exact k
      obtain ⟨cq329, kq329, qa329, qb329, qc329⟩ := isOf hZ e320 f321
      obtain ⟨_, _, ⟨T329, L329, k329, n329⟩, -, X329, ⟨Lc329, hQ329, l329, y329, z329⟩, st329⟩ := X320.virtualBack hx (y := (⟨"com/example/tynemouth/tynemouth/control/ArrivalWindow", "add", "(JJ)V"⟩ : MethodName)) (z := (⟨"com/example/tynemouth/tynemouth/control/ArrivalWindow", "add", "(JJ)V"⟩ : MethodName)) hown (mvT hZ (hw _ (List.mem_of_getElem? (i := 15) rfl))) (mvT hZ (hw _ (List.mem_of_getElem? (i := 16) rfl))) (notFace_of_selects (args := #[]) (mvT hZ (hw _ (List.mem_of_getElem? (i := 18) rfl)))) (mvT hZ (hw _ (List.mem_of_getElem? (i := 18) rfl))) (mvT hZ (hw _ (List.mem_of_getElem? (i := 17) rfl))) (by decide) (backOf (W := 0) (rm3 l Z a0 hw [] ad280 p3 w1 ba286 bb286 fi2 gj2 o2 (s2 + (1 : Int32)) dj2 h320 n0 Z320 b280 la286 lb286 na286 nb286 nc286 f321 f322 f323 f324 f325 f326 f327 f328 ho2 ⟨hsp2.1, by omega⟩) hZ (hw _ (List.mem_of_getElem? (i := 19) rfl)) (hw _ (List.mem_of_getElem? (i := 2) rfl)) (by decide) (by decide)) qa329 qc329 (g := (mkF m 119 #[.val (.long p1), .second, .val (.long p2), .second, .val (.long p3), .second, .val (.int p4), .val (.long w1), .second, .val (.int w2), .val (.int w3), .val (.int w4), .val (.int w5), .val (.ref ad280), .unset, .unset, .unset, .unset, .unset, .unset, .unset] [(.long w1), (.long p3), (.ref ad280)])) rfl (by rw [hml]; rfl) (Steps.refl _) (argsL := [(.long p3), (.long w1)]) (rest := []) (lenOf pd_3 rfl) rfl (by show 2 * 0 + _ ≤ _; exact Nat.le_of_eq rfl) (hb hby at_119) (fun _ _ => ⟨rfl, e320, (by dsimp only [Pt.cells]; decide), (by dsimp only [Pt.slots]; decide)⟩)
      dsimp only [Pt.U, Pt.locs, Pt.cells, Pt.slots] at X329 l329 y329 z329 st329 hQ329
      subst l329 y329 z329
      obtain ⟨rfl, Nc329, Kc329, ⟨o3, s3, d3, fi3, hq3, ho3, hs3, fa329, fb329, fc329, fd329, fe329, ga329, gb329⟩⟩ := hQ329
      have N329 := Fr.app N320 Nc329
      refine OwnWp.go st329 ?_
      have Z329 : n0 ≤ T329.heap.size := Nat.le_trans Z320 Kc329.1
      have f330 := Exa.keep f321 Kc329
      show OwnWp p e below s _ _ _ (T329.setTop (mkF m 122 #[.val (.long p1), .second, .val (.long p2), .second, .val (.long p3), .second, .val (.int p4), .val (.long w1), .second, .val (.int w2), .val (.int w3), .val (.int w4), .val (.int w5), .val (.ref ad280), .unset, .unset, .unset, .unset, .unset, .unset, .unset] []))
      have hsp3 : 0 ≤ (s3 + (1 : Int32)).toInt ∧ (s3 + (1 : Int32)).toInt ≤ 3 ∧ 1 ≤ (s3 + (1 : Int32)).toInt := own_sp s3 2 3 (by decide) (by decide) ⟨hs3.1, by have h9 := hs3.2; have h8 := hsp2.2; omega⟩
      refine OwnWp.step (U' := T329.setTop (mkF m 124 #[.val (.long p1), .second, .val (.long p2), .second, .val (.long p3), .second, .val (.int p4), .val (.long w1), .second, .val (.int w2), .val (.int w3), .val (.int w4), .val (.int w5), .val (.ref ad280), .unset, .unset, .unset, .unset, .unset, .unset, .unset] [(.int w4)])) (fun t k => ?_) ?_
      · show Steps p.tables e below (T329.setTop (mkF m 122 #[.val (.long p1), .second, .val (.long p2), .second, .val (.long p3), .second, .val (.int p4), .val (.long w1), .second, .val (.int w2), .val (.int w3), .val (.int w4), .val (.int w5), .val (.ref ad280), .unset, .unset, .unset, .unset, .unset, .unset, .unset] [])) _
        refine XS.iload X329.here hx rfl (hb hby at_122) rfl ?_
        show Steps p.tables e below (T329.setTop (mkF m 124 #[.val (.long p1), .second, .val (.long p2), .second, .val (.long p3), .second, .val (.int p4), .val (.long w1), .second, .val (.int w2), .val (.int w3), .val (.int w4), .val (.int w5), .val (.ref ad280), .unset, .unset, .unset, .unset, .unset, .unset, .unset] [(.int w4)])) _
        exact k
      have J3 : ∀ (T338 : State) (h338 : Heap) (L338 : List Loc) (dj3 : Int64) (gj3 : Int → Int32) (X338 : Stand p l e room_1 s m #[(.long p1), (.long p2), (.long p3), (.int p4)] below meth c T338 L338 (0 + 1 + 2) (0 + 5 + 32)) (e338 : T338.heap = h338) (N338 : Fr n0 L338) (Z338 : n0 ≤ h338.size) (f339 : Exa Z h338 ad280 "com/example/tynemouth/tynemouth/control/ArrivalWindow") (f340 : Fld Z h338 ad280 "com/example/tynemouth/tynemouth/control/ArrivalWindow" "instants" "[J" (.ref ba286)) (f341 : Fld Z h338 ad280 "com/example/tynemouth/tynemouth/control/ArrivalWindow" "admitted" "[Z" (.ref bb286)) (f342 : Fld Z h338 ad280 "com/example/tynemouth/tynemouth/control/ArrivalWindow" "oldest" "I" (.int o3)) (f343 : Fld Z h338 ad280 "com/example/tynemouth/tynemouth/control/ArrivalWindow" "size" "I" (.int (s3 + (1 : Int32)))) (f344 : Fld Z h338 ad280 "com/example/tynemouth/tynemouth/control/ArrivalWindow" "admittedHeld" "J" (.long dj3)) (f345 : OwnA Z h338 ba286 .long (16 : Int32) (fun i => .long (fi3 i))) (f346 : OwnA Z h338 bb286 .boolean (16 : Int32) (fun i => .int (gj3 i))) (hdj3 : dj3 = (if w4 = (0 : Int32) then d3 else (own_admD (ownUpd gj2 ((o3 + s3) % (16 : Int32)).toInt (nar .boolean (0 : Int32))) (((o3 + (s3 + (1 : Int32))) - (1 : Int32)) % (16 : Int32)).toInt d3))) (hgj3 : gj3 = (if w4 = (0 : Int32) then (ownUpd gj2 ((o3 + s3) % (16 : Int32)).toInt (nar .boolean (0 : Int32))) else (own_adm (ownUpd gj2 ((o3 + s3) % (16 : Int32)).toInt (nar .boolean (0 : Int32))) (((o3 + (s3 + (1 : Int32))) - (1 : Int32)) % (16 : Int32)).toInt))), OwnWp p e below s room_1.cells room_1.slots (Q0 Z p1 p2 p3 p4  h0 n0) (T338.setTop (mkF m 132 #[.val (.long p1), .second, .val (.long p2), .second, .val (.long p3), .second, .val (.int p4), .val (.long w1), .second, .val (.int w2), .val (.int w3), .val (.int w4), .val (.int w5), .val (.ref ad280), .unset, .unset, .unset, .unset, .unset, .unset, .unset] [])) := by
        intro T338 h338 L338 dj3 gj3 X338 e338 N338 Z338 f339 f340 f341 f342 f343 f344 f345 f346 hdj3 hgj3
        refine OwnWp.step (U' := T338.setTop (mkF m 134 #[.val (.long p1), .second, .val (.long p2), .second, .val (.long p3), .second, .val (.int p4), .val (.long w1), .second, .val (.int w2), .val (.int w3), .val (.int w4), .val (.int w5), .val (.ref ad280), .unset, .unset, .unset, .unset, .unset, .unset, .unset] [(.int w5)])) (fun t k => ?_) ?_
        · show Steps p.tables e below (T338.setTop (mkF m 132 #[.val (.long p1), .second, .val (.long p2), .second, .val (.long p3), .second, .val (.int p4), .val (.long w1), .second, .val (.int w2), .val (.int w3), .val (.int w4), .val (.int w5), .val (.ref ad280), .unset, .unset, .unset, .unset, .unset, .unset, .unset] [])) _
          refine XS.iload X338.here hx rfl (hb hby at_132) rfl ?_
          show Steps p.tables e below (T338.setTop (mkF m 134 #[.val (.long p1), .second, .val (.long p2), .second, .val (.long p3), .second, .val (.int p4), .val (.long w1), .second, .val (.int w2), .val (.int w3), .val (.int w4), .val (.int w5), .val (.ref ad280), .unset, .unset, .unset, .unset, .unset, .unset, .unset] [(.int w5)])) _
          exact k
        have J4 : ∀ (T347 : State) (h347 : Heap) (L347 : List Loc) (dj4 : Int64) (gj4 : Int → Int32) (X347 : Stand p l e room_1 s m #[(.long p1), (.long p2), (.long p3), (.int p4)] below meth c T347 L347 (0 + 1 + 2) (0 + 5 + 32)) (e347 : T347.heap = h347) (N347 : Fr n0 L347) (Z347 : n0 ≤ h347.size) (f348 : Exa Z h347 ad280 "com/example/tynemouth/tynemouth/control/ArrivalWindow") (f349 : Fld Z h347 ad280 "com/example/tynemouth/tynemouth/control/ArrivalWindow" "instants" "[J" (.ref ba286)) (f350 : Fld Z h347 ad280 "com/example/tynemouth/tynemouth/control/ArrivalWindow" "admitted" "[Z" (.ref bb286)) (f351 : Fld Z h347 ad280 "com/example/tynemouth/tynemouth/control/ArrivalWindow" "oldest" "I" (.int o3)) (f352 : Fld Z h347 ad280 "com/example/tynemouth/tynemouth/control/ArrivalWindow" "size" "I" (.int (s3 + (1 : Int32)))) (f353 : Fld Z h347 ad280 "com/example/tynemouth/tynemouth/control/ArrivalWindow" "admittedHeld" "J" (.long dj4)) (f354 : OwnA Z h347 ba286 .long (16 : Int32) (fun i => .long (fi3 i))) (f355 : OwnA Z h347 bb286 .boolean (16 : Int32) (fun i => .int (gj4 i))) (hdj4 : dj4 = (if w5 = (0 : Int32) then dj3 else (own_admD gj3 (((o3 + (s3 + (1 : Int32))) - (1 : Int32)) % (16 : Int32)).toInt dj3))) (hgj4 : gj4 = (if w5 = (0 : Int32) then gj3 else (own_adm gj3 (((o3 + (s3 + (1 : Int32))) - (1 : Int32)) % (16 : Int32)).toInt))), OwnWp p e below s room_1.cells room_1.slots (Q0 Z p1 p2 p3 p4  h0 n0) (T347.setTop (mkF m 142 #[.val (.long p1), .second, .val (.long p2), .second, .val (.long p3), .second, .val (.int p4), .val (.long w1), .second, .val (.int w2), .val (.int w3), .val (.int w4), .val (.int w5), .val (.ref ad280), .unset, .unset, .unset, .unset, .unset, .unset, .unset] [])) := by
          intro T347 h347 L347 dj4 gj4 X347 e347 N347 Z347 f348 f349 f350 f351 f352 f353 f354 f355 hdj4 hgj4
          refine OwnWp.step (U' := T347.setTop (mkF m 147 #[.val (.long p1), .second, .val (.long p2), .second, .val (.long p3), .second, .val (.int p4), .val (.long w1), .second, .val (.int w2), .val (.int w3), .val (.int w4), .val (.int w5), .val (.ref ad280), .unset, .unset, .unset, .unset, .unset, .unset, .unset] [(.long (3 : Int64)), (.long w1)])) (fun t k => ?_) ?_
          · show Steps p.tables e below (T347.setTop (mkF m 142 #[.val (.long p1), .second, .val (.long p2), .second, .val (.long p3), .second, .val (.int p4), .val (.long w1), .second, .val (.int w2), .val (.int w3), .val (.int w4), .val (.int w5), .val (.ref ad280), .unset, .unset, .unset, .unset, .unset, .unset, .unset] [])) _
            refine XT.lload X347.here hx rfl (hb hby at_142) rfl ?_
            show Steps p.tables e below (T347.setTop (mkF m 144 #[.val (.long p1), .second, .val (.long p2), .second, .val (.long p3), .second, .val (.int p4), .val (.long w1), .second, .val (.int w2), .val (.int w3), .val (.int w4), .val (.int w5), .val (.ref ad280), .unset, .unset, .unset, .unset, .unset, .unset, .unset] [(.long w1)])) _
            refine X347.ldc2J hx hown (mvT hZ (hw _ (List.mem_of_getElem? (i := 24) rfl))) rfl (hb hby at_144) ?_
            show Steps p.tables e below (T347.setTop (mkF m 147 #[.val (.long p1), .second, .val (.long p2), .second, .val (.long p3), .second, .val (.int p4), .val (.long w1), .second, .val (.int w2), .val (.int w3), .val (.int w4), .val (.int w5), .val (.ref ad280), .unset, .unset, .unset, .unset, .unset, .unset, .unset] [(.long (3 : Int64)), (.long w1)])) _
            exact k
          show OwnWp p e below s _ _ _ (T347.setTop (mkF m 147 #[.val (.long p1), .second, .val (.long p2), .second, .val (.long p3), .second, .val (.int p4), .val (.long w1), .second, .val (.int w2), .val (.int w3), .val (.int w4), .val (.int w5), .val (.ref ad280), .unset, .unset, .unset, .unset, .unset, .unset, .unset] [(.long (3 : Int64)), (.long w1)]))
          obtain ⟨_, _, ⟨T356, L356, k356, n356⟩, -, X356, ⟨Lc356, hQ356, l356, y356, z356⟩, st356⟩ := Jvm.LawKit.callS X347 hx (y := (⟨"java/lang/Math", "min", "(JJ)J"⟩ : MethodName)) hown (mvT hZ (hw _ (List.mem_of_getElem? (i := 25) rfl))) (mvT hZ (hw _ (List.mem_of_getElem? (i := 26) rfl))) (mvT hZ (hw _ (List.mem_of_getElem? (i := 27) rfl))) (mvT hZ (hw _ (List.mem_of_getElem? (i := 28) rfl))) (by decide) (backOf (W := 0) (rm4 l Z a0 hw [] w1 (3 : Int64) h347 n0 Z347 ) hZ (hw _ (List.mem_of_getElem? (i := 28) rfl)) (hw _ (List.mem_of_getElem? (i := 27) rfl)) (by decide) (by decide)) (g := (mkF m 147 #[.val (.long p1), .second, .val (.long p2), .second, .val (.long p3), .second, .val (.int p4), .val (.long w1), .second, .val (.int w2), .val (.int w3), .val (.int w4), .val (.int w5), .val (.ref ad280), .unset, .unset, .unset, .unset, .unset, .unset, .unset] [(.long (3 : Int64)), (.long w1)])) rfl (by rw [hml]; rfl) (argsL := [(.long w1), (.long (3 : Int64))]) (rest := []) (lenOf pd_4 rfl) rfl (by show 2 * 0 + _ ≤ _; exact Nat.le_of_eq rfl) (hb hby at_147) (fun _ _ => ⟨rfl, e347, (by dsimp only [Pt.cells]; decide), (by dsimp only [Pt.slots]; decide)⟩)
          dsimp only [Pt.U, Pt.locs, Pt.cells, Pt.slots] at X356 l356 y356 z356 st356 hQ356
          subst l356 y356 z356
          obtain ⟨rfl, Nc356, hp356⟩ := hQ356
          have N356 := Fr.app N347 Nc356
          refine OwnWp.step st356 ?_
          have eh356 : T356.heap = h347 := hp356
          show OwnWp p e below s _ _ _ (T356.setTop (mkF m 150 #[.val (.long p1), .second, .val (.long p2), .second, .val (.long p3), .second, .val (.int p4), .val (.long w1), .second, .val (.int w2), .val (.int w3), .val (.int w4), .val (.int w5), .val (.ref ad280), .unset, .unset, .unset, .unset, .unset, .unset, .unset] [(.long (own_min w1 (3 : Int64)))]))
          obtain ⟨w6, qw6⟩ : ∃ z : Int32, z = (own_min w1 (3 : Int64)).toInt32 := ⟨_, rfl⟩
          refine OwnWp.step (U' := T356.setTop (mkF m 153 #[.val (.long p1), .second, .val (.long p2), .second, .val (.long p3), .second, .val (.int p4), .val (.long w1), .second, .val (.int w2), .val (.int w3), .val (.int w4), .val (.int w5), .val (.ref ad280), .val (.int w6), .unset, .unset, .unset, .unset, .unset, .unset] [])) (fun t k => ?_) ?_
          · show Steps p.tables e below (T356.setTop (mkF m 150 #[.val (.long p1), .second, .val (.long p2), .second, .val (.long p3), .second, .val (.int p4), .val (.long w1), .second, .val (.int w2), .val (.int w3), .val (.int w4), .val (.int w5), .val (.ref ad280), .unset, .unset, .unset, .unset, .unset, .unset, .unset] [(.long (own_min w1 (3 : Int64)))])) _
            refine XT.l2i X356.here hx rfl (hb hby at_150) rfl ?_
            show Steps p.tables e below (T356.setTop (mkF m 151 #[.val (.long p1), .second, .val (.long p2), .second, .val (.long p3), .second, .val (.int p4), .val (.long w1), .second, .val (.int w2), .val (.int w3), .val (.int w4), .val (.int w5), .val (.ref ad280), .unset, .unset, .unset, .unset, .unset, .unset, .unset] [(.int (own_min w1 (3 : Int64)).toInt32)])) _
            refine XS.istore X356.here hx rfl (hb hby at_151) rfl (l' := #[.val (.long p1), .second, .val (.long p2), .second, .val (.long p3), .second, .val (.int p4), .val (.long w1), .second, .val (.int w2), .val (.int w3), .val (.int w4), .val (.int w5), .val (.ref ad280), .val (.int (own_min w1 (3 : Int64)).toInt32), .unset, .unset, .unset, .unset, .unset, .unset]) rfl ?_
            show Steps p.tables e below (T356.setTop (mkF m 153 #[.val (.long p1), .second, .val (.long p2), .second, .val (.long p3), .second, .val (.int p4), .val (.long w1), .second, .val (.int w2), .val (.int w3), .val (.int w4), .val (.int w5), .val (.ref ad280), .val (.int (own_min w1 (3 : Int64)).toInt32), .unset, .unset, .unset, .unset, .unset, .unset] [])) _
            rw [qw6] at k
            exact k
          refine OwnWp.step (U' := T356.setTop (mkF m 155 #[.val (.long p1), .second, .val (.long p2), .second, .val (.long p3), .second, .val (.int p4), .val (.long w1), .second, .val (.int w2), .val (.int w3), .val (.int w4), .val (.int w5), .val (.ref ad280), .val (.int w6), .unset, .unset, .unset, .unset, .unset, .unset] [(.int w3)])) (fun t k => ?_) ?_
          · show Steps p.tables e below (T356.setTop (mkF m 153 #[.val (.long p1), .second, .val (.long p2), .second, .val (.long p3), .second, .val (.int p4), .val (.long w1), .second, .val (.int w2), .val (.int w3), .val (.int w4), .val (.int w5), .val (.ref ad280), .val (.int w6), .unset, .unset, .unset, .unset, .unset, .unset] [])) _
            refine XS.iload X356.here hx rfl (hb hby at_153) rfl ?_
            show Steps p.tables e below (T356.setTop (mkF m 155 #[.val (.long p1), .second, .val (.long p2), .second, .val (.long p3), .second, .val (.int p4), .val (.long w1), .second, .val (.int w2), .val (.int w3), .val (.int w4), .val (.int w5), .val (.ref ad280), .val (.int w6), .unset, .unset, .unset, .unset, .unset, .unset] [(.int w3)])) _
            exact k
          obtain ⟨w7, qw7⟩ : ∃ z : Int64, z = (if w3 = (0 : Int32) then (0 : Int64) else (1 : Int64)) := ⟨_, rfl⟩
          refine OwnWp.step (U' := T356.setTop (mkF m 163 #[.val (.long p1), .second, .val (.long p2), .second, .val (.long p3), .second, .val (.int p4), .val (.long w1), .second, .val (.int w2), .val (.int w3), .val (.int w4), .val (.int w5), .val (.ref ad280), .val (.int w6), .unset, .unset, .unset, .unset, .unset, .unset] [(.long w7)])) (fun t k => ?_) ?_
          · show Steps p.tables e below (T356.setTop (mkF m 155 #[.val (.long p1), .second, .val (.long p2), .second, .val (.long p3), .second, .val (.int p4), .val (.long w1), .second, .val (.int w2), .val (.int w3), .val (.int w4), .val (.int w5), .val (.ref ad280), .val (.int w6), .unset, .unset, .unset, .unset, .unset, .unset] [(.int w3)])) _
            by_cases c155_357 : w3 = (0 : Int32)
            · refine XS.ifYes X356.here hx rfl (pc0 := 155) (pc' := 162) rfl (hb hby at_155) rfl (XT.i0_eq_t c155_357) (by decide) (by decide) ?_
              show Steps p.tables e below (T356.setTop (mkF m 162 #[.val (.long p1), .second, .val (.long p2), .second, .val (.long p3), .second, .val (.int p4), .val (.long w1), .second, .val (.int w2), .val (.int w3), .val (.int w4), .val (.int w5), .val (.ref ad280), .val (.int w6), .unset, .unset, .unset, .unset, .unset, .unset] [])) _
              refine XT.lconstV X356.here hx rfl (0 : Int64) (hb hby at_162) rfl ?_
              show Steps p.tables e below (T356.setTop (mkF m 163 #[.val (.long p1), .second, .val (.long p2), .second, .val (.long p3), .second, .val (.int p4), .val (.long w1), .second, .val (.int w2), .val (.int w3), .val (.int w4), .val (.int w5), .val (.ref ad280), .val (.int w6), .unset, .unset, .unset, .unset, .unset, .unset] [(.long (0 : Int64))])) _
              rw [show w7 = (0 : Int64) from by rw [qw7, if_pos c155_357]] at k
              exact k
            · refine XS.ifNo X356.here hx rfl (hb hby at_155) rfl (XT.i0_eq_f c155_357) ?_
              show Steps p.tables e below (T356.setTop (mkF m 158 #[.val (.long p1), .second, .val (.long p2), .second, .val (.long p3), .second, .val (.int p4), .val (.long w1), .second, .val (.int w2), .val (.int w3), .val (.int w4), .val (.int w5), .val (.ref ad280), .val (.int w6), .unset, .unset, .unset, .unset, .unset, .unset] [])) _
              refine XT.lconstV X356.here hx rfl (1 : Int64) (hb hby at_158) rfl ?_
              show Steps p.tables e below (T356.setTop (mkF m 159 #[.val (.long p1), .second, .val (.long p2), .second, .val (.long p3), .second, .val (.int p4), .val (.long w1), .second, .val (.int w2), .val (.int w3), .val (.int w4), .val (.int w5), .val (.ref ad280), .val (.int w6), .unset, .unset, .unset, .unset, .unset, .unset] [(.long (1 : Int64))])) _
              refine XS.goto X356.here hx rfl (pc0 := 159) (pc' := 163) rfl (hb hby at_159) (by decide) (by decide) ?_
              show Steps p.tables e below (T356.setTop (mkF m 163 #[.val (.long p1), .second, .val (.long p2), .second, .val (.long p3), .second, .val (.int p4), .val (.long w1), .second, .val (.int w2), .val (.int w3), .val (.int w4), .val (.int w5), .val (.ref ad280), .val (.int w6), .unset, .unset, .unset, .unset, .unset, .unset] [(.long (1 : Int64))])) _
              rw [show w7 = (1 : Int64) from by rw [qw7, if_neg c155_357]] at k
              exact k
          refine OwnWp.step (U' := T356.setTop (mkF m 167 #[.val (.long p1), .second, .val (.long p2), .second, .val (.long p3), .second, .val (.int p4), .val (.long w1), .second, .val (.int w2), .val (.int w3), .val (.int w4), .val (.int w5), .val (.ref ad280), .val (.int w6), .val (.long w7), .second, .unset, .unset, .unset, .unset] [(.int w4)])) (fun t k => ?_) ?_
          · show Steps p.tables e below (T356.setTop (mkF m 163 #[.val (.long p1), .second, .val (.long p2), .second, .val (.long p3), .second, .val (.int p4), .val (.long w1), .second, .val (.int w2), .val (.int w3), .val (.int w4), .val (.int w5), .val (.ref ad280), .val (.int w6), .unset, .unset, .unset, .unset, .unset, .unset] [(.long w7)])) _
            refine XT.lstore X356.here hx rfl (hb hby at_163) rfl (l' := #[.val (.long p1), .second, .val (.long p2), .second, .val (.long p3), .second, .val (.int p4), .val (.long w1), .second, .val (.int w2), .val (.int w3), .val (.int w4), .val (.int w5), .val (.ref ad280), .val (.int w6), .val (.long w7), .second, .unset, .unset, .unset, .unset]) rfl ?_
            show Steps p.tables e below (T356.setTop (mkF m 165 #[.val (.long p1), .second, .val (.long p2), .second, .val (.long p3), .second, .val (.int p4), .val (.long w1), .second, .val (.int w2), .val (.int w3), .val (.int w4), .val (.int w5), .val (.ref ad280), .val (.int w6), .val (.long w7), .second, .unset, .unset, .unset, .unset] [])) _
            refine XS.iload X356.here hx rfl (hb hby at_165) rfl ?_
            show Steps p.tables e below (T356.setTop (mkF m 167 #[.val (.long p1), .second, .val (.long p2), .second, .val (.long p3), .second, .val (.int p4), .val (.long w1), .second, .val (.int w2), .val (.int w3), .val (.int w4), .val (.int w5), .val (.ref ad280), .val (.int w6), .val (.long w7), .second, .unset, .unset, .unset, .unset] [(.int w4)])) _
            exact k
          obtain ⟨w8, qw8⟩ : ∃ z : Int64, z = (if w4 = (0 : Int32) then (if w5 = (0 : Int32) then (0 : Int64) else (1 : Int64)) else (1 : Int64)) := ⟨_, rfl⟩
          refine OwnWp.step (U' := T356.setTop (mkF m 180 #[.val (.long p1), .second, .val (.long p2), .second, .val (.long p3), .second, .val (.int p4), .val (.long w1), .second, .val (.int w2), .val (.int w3), .val (.int w4), .val (.int w5), .val (.ref ad280), .val (.int w6), .val (.long w7), .second, .unset, .unset, .unset, .unset] [(.long w8)])) (fun t k => ?_) ?_
          · show Steps p.tables e below (T356.setTop (mkF m 167 #[.val (.long p1), .second, .val (.long p2), .second, .val (.long p3), .second, .val (.int p4), .val (.long w1), .second, .val (.int w2), .val (.int w3), .val (.int w4), .val (.int w5), .val (.ref ad280), .val (.int w6), .val (.long w7), .second, .unset, .unset, .unset, .unset] [(.int w4)])) _
            by_cases c167_358 : w4 = (0 : Int32)
            · refine XS.ifNo X356.here hx rfl (hb hby at_167) rfl (XT.i0_ne_f c167_358) ?_
              show Steps p.tables e below (T356.setTop (mkF m 170 #[.val (.long p1), .second, .val (.long p2), .second, .val (.long p3), .second, .val (.int p4), .val (.long w1), .second, .val (.int w2), .val (.int w3), .val (.int w4), .val (.int w5), .val (.ref ad280), .val (.int w6), .val (.long w7), .second, .unset, .unset, .unset, .unset] [])) _
              refine XS.iload X356.here hx rfl (hb hby at_170) rfl ?_
              show Steps p.tables e below (T356.setTop (mkF m 172 #[.val (.long p1), .second, .val (.long p2), .second, .val (.long p3), .second, .val (.int p4), .val (.long w1), .second, .val (.int w2), .val (.int w3), .val (.int w4), .val (.int w5), .val (.ref ad280), .val (.int w6), .val (.long w7), .second, .unset, .unset, .unset, .unset] [(.int w5)])) _
              by_cases c172_359 : w5 = (0 : Int32)
              · refine XS.ifYes X356.here hx rfl (pc0 := 172) (pc' := 179) rfl (hb hby at_172) rfl (XT.i0_eq_t c172_359) (by decide) (by decide) ?_
                show Steps p.tables e below (T356.setTop (mkF m 179 #[.val (.long p1), .second, .val (.long p2), .second, .val (.long p3), .second, .val (.int p4), .val (.long w1), .second, .val (.int w2), .val (.int w3), .val (.int w4), .val (.int w5), .val (.ref ad280), .val (.int w6), .val (.long w7), .second, .unset, .unset, .unset, .unset] [])) _
                refine XT.lconstV X356.here hx rfl (0 : Int64) (hb hby at_179) rfl ?_
                show Steps p.tables e below (T356.setTop (mkF m 180 #[.val (.long p1), .second, .val (.long p2), .second, .val (.long p3), .second, .val (.int p4), .val (.long w1), .second, .val (.int w2), .val (.int w3), .val (.int w4), .val (.int w5), .val (.ref ad280), .val (.int w6), .val (.long w7), .second, .unset, .unset, .unset, .unset] [(.long (0 : Int64))])) _
                rw [show w8 = (0 : Int64) from by rw [qw8, if_pos c167_358, if_pos c172_359]] at k
                exact k
              · refine XS.ifNo X356.here hx rfl (hb hby at_172) rfl (XT.i0_eq_f c172_359) ?_
                show Steps p.tables e below (T356.setTop (mkF m 175 #[.val (.long p1), .second, .val (.long p2), .second, .val (.long p3), .second, .val (.int p4), .val (.long w1), .second, .val (.int w2), .val (.int w3), .val (.int w4), .val (.int w5), .val (.ref ad280), .val (.int w6), .val (.long w7), .second, .unset, .unset, .unset, .unset] [])) _
                refine XT.lconstV X356.here hx rfl (1 : Int64) (hb hby at_175) rfl ?_
                show Steps p.tables e below (T356.setTop (mkF m 176 #[.val (.long p1), .second, .val (.long p2), .second, .val (.long p3), .second, .val (.int p4), .val (.long w1), .second, .val (.int w2), .val (.int w3), .val (.int w4), .val (.int w5), .val (.ref ad280), .val (.int w6), .val (.long w7), .second, .unset, .unset, .unset, .unset] [(.long (1 : Int64))])) _
                refine XS.goto X356.here hx rfl (pc0 := 176) (pc' := 180) rfl (hb hby at_176) (by decide) (by decide) ?_
                show Steps p.tables e below (T356.setTop (mkF m 180 #[.val (.long p1), .second, .val (.long p2), .second, .val (.long p3), .second, .val (.int p4), .val (.long w1), .second, .val (.int w2), .val (.int w3), .val (.int w4), .val (.int w5), .val (.ref ad280), .val (.int w6), .val (.long w7), .second, .unset, .unset, .unset, .unset] [(.long (1 : Int64))])) _
                rw [show w8 = (1 : Int64) from by rw [qw8, if_pos c167_358, if_neg c172_359]] at k
                exact k
            · refine XS.ifYes X356.here hx rfl (pc0 := 167) (pc' := 175) rfl (hb hby at_167) rfl (XT.i0_ne_t c167_358) (by decide) (by decide) ?_
              show Steps p.tables e below (T356.setTop (mkF m 175 #[.val (.long p1), .second, .val (.long p2), .second, .val (.long p3), .second, .val (.int p4), .val (.long w1), .second, .val (.int w2), .val (.int w3), .val (.int w4), .val (.int w5), .val (.ref ad280), .val (.int w6), .val (.long w7), .second, .unset, .unset, .unset, .unset] [])) _
              refine XT.lconstV X356.here hx rfl (1 : Int64) (hb hby at_175) rfl ?_
              show Steps p.tables e below (T356.setTop (mkF m 176 #[.val (.long p1), .second, .val (.long p2), .second, .val (.long p3), .second, .val (.int p4), .val (.long w1), .second, .val (.int w2), .val (.int w3), .val (.int w4), .val (.int w5), .val (.ref ad280), .val (.int w6), .val (.long w7), .second, .unset, .unset, .unset, .unset] [(.long (1 : Int64))])) _
              refine XS.goto X356.here hx rfl (pc0 := 176) (pc' := 180) rfl (hb hby at_176) (by decide) (by decide) ?_
              show Steps p.tables e below (T356.setTop (mkF m 180 #[.val (.long p1), .second, .val (.long p2), .second, .val (.long p3), .second, .val (.int p4), .val (.long w1), .second, .val (.int w2), .val (.int w3), .val (.int w4), .val (.int w5), .val (.ref ad280), .val (.int w6), .val (.long w7), .second, .unset, .unset, .unset, .unset] [(.long (1 : Int64))])) _
              rw [show w8 = (1 : Int64) from by rw [qw8, if_neg c167_358]] at k
              exact k
          refine OwnWp.step (U' := T356.setTop (mkF m 185 #[.val (.long p1), .second, .val (.long p2), .second, .val (.long p3), .second, .val (.int p4), .val (.long w1), .second, .val (.int w2), .val (.int w3), .val (.int w4), .val (.int w5), .val (.ref ad280), .val (.int w6), .val (.long w7), .second, .val (.long w8), .second, .unset, .unset] [(.int (1 : Int32)), (.int w6)])) (fun t k => ?_) ?_
          · show Steps p.tables e below (T356.setTop (mkF m 180 #[.val (.long p1), .second, .val (.long p2), .second, .val (.long p3), .second, .val (.int p4), .val (.long w1), .second, .val (.int w2), .val (.int w3), .val (.int w4), .val (.int w5), .val (.ref ad280), .val (.int w6), .val (.long w7), .second, .unset, .unset, .unset, .unset] [(.long w8)])) _
            refine XT.lstore X356.here hx rfl (hb hby at_180) rfl (l' := #[.val (.long p1), .second, .val (.long p2), .second, .val (.long p3), .second, .val (.int p4), .val (.long w1), .second, .val (.int w2), .val (.int w3), .val (.int w4), .val (.int w5), .val (.ref ad280), .val (.int w6), .val (.long w7), .second, .val (.long w8), .second, .unset, .unset]) rfl ?_
            show Steps p.tables e below (T356.setTop (mkF m 182 #[.val (.long p1), .second, .val (.long p2), .second, .val (.long p3), .second, .val (.int p4), .val (.long w1), .second, .val (.int w2), .val (.int w3), .val (.int w4), .val (.int w5), .val (.ref ad280), .val (.int w6), .val (.long w7), .second, .val (.long w8), .second, .unset, .unset] [])) _
            refine XS.iload X356.here hx rfl (hb hby at_182) rfl ?_
            show Steps p.tables e below (T356.setTop (mkF m 184 #[.val (.long p1), .second, .val (.long p2), .second, .val (.long p3), .second, .val (.int p4), .val (.long w1), .second, .val (.int w2), .val (.int w3), .val (.int w4), .val (.int w5), .val (.ref ad280), .val (.int w6), .val (.long w7), .second, .val (.long w8), .second, .unset, .unset] [(.int w6)])) _
            refine XT.iconstV X356.here hx rfl (1 : Int32) (hb hby at_184) rfl ?_
            show Steps p.tables e below (T356.setTop (mkF m 185 #[.val (.long p1), .second, .val (.long p2), .second, .val (.long p3), .second, .val (.int p4), .val (.long w1), .second, .val (.int w2), .val (.int w3), .val (.int w4), .val (.int w5), .val (.ref ad280), .val (.int w6), .val (.long w7), .second, .val (.long w8), .second, .unset, .unset] [(.int (1 : Int32)), (.int w6)])) _
            exact k
          obtain ⟨w9, qw9⟩ : ∃ z : Int64, z = (if w6 = (1 : Int32) then (0 : Int64) else (if w6 = (2 : Int32) then w8 else (w7 + w8))) := ⟨_, rfl⟩
          refine OwnWp.step (U' := T356.setTop (mkF m 214 #[.val (.long p1), .second, .val (.long p2), .second, .val (.long p3), .second, .val (.int p4), .val (.long w1), .second, .val (.int w2), .val (.int w3), .val (.int w4), .val (.int w5), .val (.ref ad280), .val (.int w6), .val (.long w7), .second, .val (.long w8), .second, .val (.long w9), .second] [])) (fun t k => ?_) ?_
          · show Steps p.tables e below (T356.setTop (mkF m 185 #[.val (.long p1), .second, .val (.long p2), .second, .val (.long p3), .second, .val (.int p4), .val (.long w1), .second, .val (.int w2), .val (.int w3), .val (.int w4), .val (.int w5), .val (.ref ad280), .val (.int w6), .val (.long w7), .second, .val (.long w8), .second, .unset, .unset] [(.int (1 : Int32)), (.int w6)])) _
            by_cases c185_360 : w6 = (1 : Int32)
            · refine XS.icmpNo X356.here hx rfl (hb hby at_185) rfl (XT.ii_ne_f c185_360) ?_
              show Steps p.tables e below (T356.setTop (mkF m 188 #[.val (.long p1), .second, .val (.long p2), .second, .val (.long p3), .second, .val (.int p4), .val (.long w1), .second, .val (.int w2), .val (.int w3), .val (.int w4), .val (.int w5), .val (.ref ad280), .val (.int w6), .val (.long w7), .second, .val (.long w8), .second, .unset, .unset] [])) _
              refine XT.lconstV X356.here hx rfl (0 : Int64) (hb hby at_188) rfl ?_
              show Steps p.tables e below (T356.setTop (mkF m 189 #[.val (.long p1), .second, .val (.long p2), .second, .val (.long p3), .second, .val (.int p4), .val (.long w1), .second, .val (.int w2), .val (.int w3), .val (.int w4), .val (.int w5), .val (.ref ad280), .val (.int w6), .val (.long w7), .second, .val (.long w8), .second, .unset, .unset] [(.long (0 : Int64))])) _
              refine XT.lstore X356.here hx rfl (hb hby at_189) rfl (l' := #[.val (.long p1), .second, .val (.long p2), .second, .val (.long p3), .second, .val (.int p4), .val (.long w1), .second, .val (.int w2), .val (.int w3), .val (.int w4), .val (.int w5), .val (.ref ad280), .val (.int w6), .val (.long w7), .second, .val (.long w8), .second, .val (.long (0 : Int64)), .second]) rfl ?_
              show Steps p.tables e below (T356.setTop (mkF m 191 #[.val (.long p1), .second, .val (.long p2), .second, .val (.long p3), .second, .val (.int p4), .val (.long w1), .second, .val (.int w2), .val (.int w3), .val (.int w4), .val (.int w5), .val (.ref ad280), .val (.int w6), .val (.long w7), .second, .val (.long w8), .second, .val (.long (0 : Int64)), .second] [])) _
              refine XS.goto X356.here hx rfl (pc0 := 191) (pc' := 214) rfl (hb hby at_191) (by decide) (by decide) ?_
              show Steps p.tables e below (T356.setTop (mkF m 214 #[.val (.long p1), .second, .val (.long p2), .second, .val (.long p3), .second, .val (.int p4), .val (.long w1), .second, .val (.int w2), .val (.int w3), .val (.int w4), .val (.int w5), .val (.ref ad280), .val (.int w6), .val (.long w7), .second, .val (.long w8), .second, .val (.long (0 : Int64)), .second] [])) _
              rw [show w9 = (0 : Int64) from by rw [qw9, if_pos c185_360]] at k
              exact k
            · refine XS.icmpYes X356.here hx rfl (pc0 := 185) (pc' := 194) rfl (hb hby at_185) rfl (XT.ii_ne_t c185_360) (by decide) (by decide) ?_
              show Steps p.tables e below (T356.setTop (mkF m 194 #[.val (.long p1), .second, .val (.long p2), .second, .val (.long p3), .second, .val (.int p4), .val (.long w1), .second, .val (.int w2), .val (.int w3), .val (.int w4), .val (.int w5), .val (.ref ad280), .val (.int w6), .val (.long w7), .second, .val (.long w8), .second, .unset, .unset] [])) _
              refine XS.iload X356.here hx rfl (hb hby at_194) rfl ?_
              show Steps p.tables e below (T356.setTop (mkF m 196 #[.val (.long p1), .second, .val (.long p2), .second, .val (.long p3), .second, .val (.int p4), .val (.long w1), .second, .val (.int w2), .val (.int w3), .val (.int w4), .val (.int w5), .val (.ref ad280), .val (.int w6), .val (.long w7), .second, .val (.long w8), .second, .unset, .unset] [(.int w6)])) _
              refine XT.iconstV X356.here hx rfl (2 : Int32) (hb hby at_196) rfl ?_
              show Steps p.tables e below (T356.setTop (mkF m 197 #[.val (.long p1), .second, .val (.long p2), .second, .val (.long p3), .second, .val (.int p4), .val (.long w1), .second, .val (.int w2), .val (.int w3), .val (.int w4), .val (.int w5), .val (.ref ad280), .val (.int w6), .val (.long w7), .second, .val (.long w8), .second, .unset, .unset] [(.int (2 : Int32)), (.int w6)])) _
              by_cases c197_361 : w6 = (2 : Int32)
              · refine XS.icmpNo X356.here hx rfl (hb hby at_197) rfl (XT.ii_ne_f c197_361) ?_
                show Steps p.tables e below (T356.setTop (mkF m 200 #[.val (.long p1), .second, .val (.long p2), .second, .val (.long p3), .second, .val (.int p4), .val (.long w1), .second, .val (.int w2), .val (.int w3), .val (.int w4), .val (.int w5), .val (.ref ad280), .val (.int w6), .val (.long w7), .second, .val (.long w8), .second, .unset, .unset] [])) _
                refine XT.lload X356.here hx rfl (hb hby at_200) rfl ?_
                show Steps p.tables e below (T356.setTop (mkF m 202 #[.val (.long p1), .second, .val (.long p2), .second, .val (.long p3), .second, .val (.int p4), .val (.long w1), .second, .val (.int w2), .val (.int w3), .val (.int w4), .val (.int w5), .val (.ref ad280), .val (.int w6), .val (.long w7), .second, .val (.long w8), .second, .unset, .unset] [(.long w8)])) _
                refine XT.lstore X356.here hx rfl (hb hby at_202) rfl (l' := #[.val (.long p1), .second, .val (.long p2), .second, .val (.long p3), .second, .val (.int p4), .val (.long w1), .second, .val (.int w2), .val (.int w3), .val (.int w4), .val (.int w5), .val (.ref ad280), .val (.int w6), .val (.long w7), .second, .val (.long w8), .second, .val (.long w8), .second]) rfl ?_
                show Steps p.tables e below (T356.setTop (mkF m 204 #[.val (.long p1), .second, .val (.long p2), .second, .val (.long p3), .second, .val (.int p4), .val (.long w1), .second, .val (.int w2), .val (.int w3), .val (.int w4), .val (.int w5), .val (.ref ad280), .val (.int w6), .val (.long w7), .second, .val (.long w8), .second, .val (.long w8), .second] [])) _
                refine XS.goto X356.here hx rfl (pc0 := 204) (pc' := 214) rfl (hb hby at_204) (by decide) (by decide) ?_
                show Steps p.tables e below (T356.setTop (mkF m 214 #[.val (.long p1), .second, .val (.long p2), .second, .val (.long p3), .second, .val (.int p4), .val (.long w1), .second, .val (.int w2), .val (.int w3), .val (.int w4), .val (.int w5), .val (.ref ad280), .val (.int w6), .val (.long w7), .second, .val (.long w8), .second, .val (.long w8), .second] [])) _
                rw [show w9 = w8 from by rw [qw9, if_neg c185_360, if_pos c197_361]] at k
                exact k
              · refine XS.icmpYes X356.here hx rfl (pc0 := 197) (pc' := 207) rfl (hb hby at_197) rfl (XT.ii_ne_t c197_361) (by decide) (by decide) ?_
                show Steps p.tables e below (T356.setTop (mkF m 207 #[.val (.long p1), .second, .val (.long p2), .second, .val (.long p3), .second, .val (.int p4), .val (.long w1), .second, .val (.int w2), .val (.int w3), .val (.int w4), .val (.int w5), .val (.ref ad280), .val (.int w6), .val (.long w7), .second, .val (.long w8), .second, .unset, .unset] [])) _
                refine XT.lload X356.here hx rfl (hb hby at_207) rfl ?_
                show Steps p.tables e below (T356.setTop (mkF m 209 #[.val (.long p1), .second, .val (.long p2), .second, .val (.long p3), .second, .val (.int p4), .val (.long w1), .second, .val (.int w2), .val (.int w3), .val (.int w4), .val (.int w5), .val (.ref ad280), .val (.int w6), .val (.long w7), .second, .val (.long w8), .second, .unset, .unset] [(.long w7)])) _
                refine XT.lload X356.here hx rfl (hb hby at_209) rfl ?_
                show Steps p.tables e below (T356.setTop (mkF m 211 #[.val (.long p1), .second, .val (.long p2), .second, .val (.long p3), .second, .val (.int p4), .val (.long w1), .second, .val (.int w2), .val (.int w3), .val (.int w4), .val (.int w5), .val (.ref ad280), .val (.int w6), .val (.long w7), .second, .val (.long w8), .second, .unset, .unset] [(.long w8), (.long w7)])) _
                refine XT.ladd X356.here hx rfl (hb hby at_211) rfl ?_
                show Steps p.tables e below (T356.setTop (mkF m 212 #[.val (.long p1), .second, .val (.long p2), .second, .val (.long p3), .second, .val (.int p4), .val (.long w1), .second, .val (.int w2), .val (.int w3), .val (.int w4), .val (.int w5), .val (.ref ad280), .val (.int w6), .val (.long w7), .second, .val (.long w8), .second, .unset, .unset] [(.long (w7 + w8))])) _
                refine XT.lstore X356.here hx rfl (hb hby at_212) rfl (l' := #[.val (.long p1), .second, .val (.long p2), .second, .val (.long p3), .second, .val (.int p4), .val (.long w1), .second, .val (.int w2), .val (.int w3), .val (.int w4), .val (.int w5), .val (.ref ad280), .val (.int w6), .val (.long w7), .second, .val (.long w8), .second, .val (.long (w7 + w8)), .second]) rfl ?_
                show Steps p.tables e below (T356.setTop (mkF m 214 #[.val (.long p1), .second, .val (.long p2), .second, .val (.long p3), .second, .val (.int p4), .val (.long w1), .second, .val (.int w2), .val (.int w3), .val (.int w4), .val (.int w5), .val (.ref ad280), .val (.int w6), .val (.long w7), .second, .val (.long w8), .second, .val (.long (w7 + w8)), .second] [])) _
                rw [show w9 = (w7 + w8) from by rw [qw9, if_neg c185_360, if_neg c197_361]] at k
                exact k
          refine OwnWp.step (U' := T356.setTop (mkF m 216 #[.val (.long p1), .second, .val (.long p2), .second, .val (.long p3), .second, .val (.int p4), .val (.long w1), .second, .val (.int w2), .val (.int w3), .val (.int w4), .val (.int w5), .val (.ref ad280), .val (.int w6), .val (.long w7), .second, .val (.long w8), .second, .val (.long w9), .second] [(.ref ad280)])) (fun t k => ?_) ?_
          · show Steps p.tables e below (T356.setTop (mkF m 214 #[.val (.long p1), .second, .val (.long p2), .second, .val (.long p3), .second, .val (.int p4), .val (.long w1), .second, .val (.int w2), .val (.int w3), .val (.int w4), .val (.int w5), .val (.ref ad280), .val (.int w6), .val (.long w7), .second, .val (.long w8), .second, .val (.long w9), .second] [])) _
            refine XS.aload X356.here hx rfl (hb hby at_214) rfl rfl ?_
            show Steps p.tables e below (T356.setTop (mkF m 216 #[.val (.long p1), .second, .val (.long p2), .second, .val (.long p3), .second, .val (.int p4), .val (.long w1), .second, .val (.int w2), .val (.int w3), .val (.int w4), .val (.int w5), .val (.ref ad280), .val (.int w6), .val (.long w7), .second, .val (.long w8), .second, .val (.long w9), .second] [(.ref ad280)])) _
            exact k
          obtain ⟨cq362, kq362, qa362, qb362, qc362⟩ := isOf hZ eh356 f348
          obtain ⟨_, _, ⟨T362, L362, k362, n362⟩, -, X362, ⟨Lc362, hQ362, l362, y362, z362⟩, st362⟩ := X356.virtualBack hx (y := (⟨"com/example/tynemouth/tynemouth/control/ArrivalWindow", "size", "()I"⟩ : MethodName)) (z := (⟨"com/example/tynemouth/tynemouth/control/ArrivalWindow", "size", "()I"⟩ : MethodName)) hown (mvT hZ (hw _ (List.mem_of_getElem? (i := 29) rfl))) (mvT hZ (hw _ (List.mem_of_getElem? (i := 30) rfl))) (notFace_of_selects (args := #[]) (mvT hZ (hw _ (List.mem_of_getElem? (i := 32) rfl)))) (mvT hZ (hw _ (List.mem_of_getElem? (i := 32) rfl))) (mvT hZ (hw _ (List.mem_of_getElem? (i := 31) rfl))) (by decide) (backOf (W := 0) (rm5 l Z a0 hw [] ad280  ba286 bb286 fi3 gj4 o3 (s3 + (1 : Int32)) dj4 h347 n0 Z347 b280 la286 lb286 na286 nb286 nc286 f348 f349 f350 f351 f352 f353 f354 f355 ho3 ⟨hsp3.1, by omega⟩) hZ (hw _ (List.mem_of_getElem? (i := 33) rfl)) (hw _ (List.mem_of_getElem? (i := 2) rfl)) (by decide) (by decide)) qa362 qc362 (g := (mkF m 216 #[.val (.long p1), .second, .val (.long p2), .second, .val (.long p3), .second, .val (.int p4), .val (.long w1), .second, .val (.int w2), .val (.int w3), .val (.int w4), .val (.int w5), .val (.ref ad280), .val (.int w6), .val (.long w7), .second, .val (.long w8), .second, .val (.long w9), .second] [(.ref ad280)])) rfl (by rw [hml]; rfl) (Steps.refl _) (argsL := []) (rest := []) (lenOf pd_5 rfl) rfl (by show 2 * 0 + _ ≤ _; exact Nat.le_of_eq rfl) (hb hby at_216) (fun _ _ => ⟨rfl, eh356, (by dsimp only [Pt.cells]; decide), (by dsimp only [Pt.slots]; decide)⟩)
          dsimp only [Pt.U, Pt.locs, Pt.cells, Pt.slots] at X362 l362 y362 z362 st362 hQ362
          subst l362 y362 z362
          obtain ⟨rfl, Nc362, hp362⟩ := hQ362
          have N362 := Fr.app N356 Nc362
          refine OwnWp.go st362 ?_
          have eh362 : T362.heap = h347 := hp362
          show OwnWp p e below s _ _ _ (T362.setTop (mkF m 219 #[.val (.long p1), .second, .val (.long p2), .second, .val (.long p3), .second, .val (.int p4), .val (.long w1), .second, .val (.int w2), .val (.int w3), .val (.int w4), .val (.int w5), .val (.ref ad280), .val (.int w6), .val (.long w7), .second, .val (.long w8), .second, .val (.long w9), .second] [(.int (s3 + (1 : Int32)))]))
          refine OwnWp.step (U' := T362.setTop (mkF m 221 #[.val (.long p1), .second, .val (.long p2), .second, .val (.long p3), .second, .val (.int p4), .val (.long w1), .second, .val (.int w2), .val (.int w3), .val (.int w4), .val (.int w5), .val (.ref ad280), .val (.int w6), .val (.long w7), .second, .val (.long w8), .second, .val (.long w9), .second] [(.int w6), (.int (s3 + (1 : Int32)))])) (fun t k => ?_) ?_
          · show Steps p.tables e below (T362.setTop (mkF m 219 #[.val (.long p1), .second, .val (.long p2), .second, .val (.long p3), .second, .val (.int p4), .val (.long w1), .second, .val (.int w2), .val (.int w3), .val (.int w4), .val (.int w5), .val (.ref ad280), .val (.int w6), .val (.long w7), .second, .val (.long w8), .second, .val (.long w9), .second] [(.int (s3 + (1 : Int32)))])) _
            refine XS.iload X362.here hx rfl (hb hby at_219) rfl ?_
            show Steps p.tables e below (T362.setTop (mkF m 221 #[.val (.long p1), .second, .val (.long p2), .second, .val (.long p3), .second, .val (.int p4), .val (.long w1), .second, .val (.int w2), .val (.int w3), .val (.int w4), .val (.int w5), .val (.ref ad280), .val (.int w6), .val (.long w7), .second, .val (.long w8), .second, .val (.long w9), .second] [(.int w6), (.int (s3 + (1 : Int32)))])) _
            exact k
          have hsz := own_lawA p4 w1 qw1 w2 qw2 w3 qw3 w4 qw4 w5 qw5 o1 s1 d1 hq1 dj1 gj1 hdj1 hgj1 o2 s2 d2 hq2 dj2 gj2 hdj2 hgj2 o3 s3 d3 hq3 dj3 gj3 hdj3 hgj3 dj4 gj4 hdj4 hgj4 w6 qw6 w7 qw7 w8 qw8 w9 qw9
          refine OwnWp.step (U' := T362.setTop (mkF m 226 #[.val (.long p1), .second, .val (.long p2), .second, .val (.long p3), .second, .val (.int p4), .val (.long w1), .second, .val (.int w2), .val (.int w3), .val (.int w4), .val (.int w5), .val (.ref ad280), .val (.int w6), .val (.long w7), .second, .val (.long w8), .second, .val (.long w9), .second] [(.ref ad280)])) (fun t k => ?_) ?_
          · show Steps p.tables e below (T362.setTop (mkF m 221 #[.val (.long p1), .second, .val (.long p2), .second, .val (.long p3), .second, .val (.int p4), .val (.long w1), .second, .val (.int w2), .val (.int w3), .val (.int w4), .val (.int w5), .val (.ref ad280), .val (.int w6), .val (.long w7), .second, .val (.long w8), .second, .val (.long w9), .second] [(.int w6), (.int (s3 + (1 : Int32)))])) _
            refine XS.icmpNo X362.here hx rfl (hb hby at_221) rfl (XT.ii_ne_f hsz) ?_
            show Steps p.tables e below (T362.setTop (mkF m 224 #[.val (.long p1), .second, .val (.long p2), .second, .val (.long p3), .second, .val (.int p4), .val (.long w1), .second, .val (.int w2), .val (.int w3), .val (.int w4), .val (.int w5), .val (.ref ad280), .val (.int w6), .val (.long w7), .second, .val (.long w8), .second, .val (.long w9), .second] [])) _
            refine XS.aload X362.here hx rfl (hb hby at_224) rfl rfl ?_
            show Steps p.tables e below (T362.setTop (mkF m 226 #[.val (.long p1), .second, .val (.long p2), .second, .val (.long p3), .second, .val (.int p4), .val (.long w1), .second, .val (.int w2), .val (.int w3), .val (.int w4), .val (.int w5), .val (.ref ad280), .val (.int w6), .val (.long w7), .second, .val (.long w8), .second, .val (.long w9), .second] [(.ref ad280)])) _
            exact k
          obtain ⟨cq363, kq363, qa363, qb363, qc363⟩ := isOf hZ eh362 f348
          obtain ⟨_, _, ⟨T363, L363, k363, n363⟩, -, X363, ⟨Lc363, hQ363, l363, y363, z363⟩, st363⟩ := X362.virtualBack hx (y := (⟨"com/example/tynemouth/tynemouth/control/ArrivalWindow", "admittedAfterOldest", "()J"⟩ : MethodName)) (z := (⟨"com/example/tynemouth/tynemouth/control/ArrivalWindow", "admittedAfterOldest", "()J"⟩ : MethodName)) hown (mvT hZ (hw _ (List.mem_of_getElem? (i := 34) rfl))) (mvT hZ (hw _ (List.mem_of_getElem? (i := 35) rfl))) (notFace_of_selects (args := #[]) (mvT hZ (hw _ (List.mem_of_getElem? (i := 37) rfl)))) (mvT hZ (hw _ (List.mem_of_getElem? (i := 37) rfl))) (mvT hZ (hw _ (List.mem_of_getElem? (i := 36) rfl))) (by decide) (backOf (W := 0) (rm6 l Z a0 hw [] ad280  ba286 bb286 fi3 gj4 o3 (s3 + (1 : Int32)) dj4 h347 n0 Z347 b280 la286 lb286 na286 nb286 nc286 f348 f349 f350 f351 f352 f353 f354 f355 ho3 ⟨hsp3.1, by omega⟩) hZ (hw _ (List.mem_of_getElem? (i := 38) rfl)) (hw _ (List.mem_of_getElem? (i := 2) rfl)) (by decide) (by decide)) qa363 qc363 (g := (mkF m 226 #[.val (.long p1), .second, .val (.long p2), .second, .val (.long p3), .second, .val (.int p4), .val (.long w1), .second, .val (.int w2), .val (.int w3), .val (.int w4), .val (.int w5), .val (.ref ad280), .val (.int w6), .val (.long w7), .second, .val (.long w8), .second, .val (.long w9), .second] [(.ref ad280)])) rfl (by rw [hml]; rfl) (Steps.refl _) (argsL := []) (rest := []) (lenOf pd_6 rfl) rfl (by show 2 * 0 + _ ≤ _; exact Nat.le_of_eq rfl) (hb hby at_226) (fun _ _ => ⟨rfl, eh362, (by dsimp only [Pt.cells]; decide), (by dsimp only [Pt.slots]; decide)⟩)
          dsimp only [Pt.U, Pt.locs, Pt.cells, Pt.slots] at X363 l363 y363 z363 st363 hQ363
          subst l363 y363 z363
          obtain ⟨rfl, Nc363, hp363⟩ := hQ363
          have N363 := Fr.app N362 Nc363
          refine OwnWp.go st363 ?_
          have eh363 : T363.heap = h347 := hp363
          show OwnWp p e below s _ _ _ (T363.setTop (mkF m 229 #[.val (.long p1), .second, .val (.long p2), .second, .val (.long p3), .second, .val (.int p4), .val (.long w1), .second, .val (.int w2), .val (.int w3), .val (.int w4), .val (.int w5), .val (.ref ad280), .val (.int w6), .val (.long w7), .second, .val (.long w8), .second, .val (.long w9), .second] [(.long (own_after gj4 o3 dj4))]))
          refine OwnWp.step (U' := T363.setTop (mkF m 232 #[.val (.long p1), .second, .val (.long p2), .second, .val (.long p3), .second, .val (.int p4), .val (.long w1), .second, .val (.int w2), .val (.int w3), .val (.int w4), .val (.int w5), .val (.ref ad280), .val (.int w6), .val (.long w7), .second, .val (.long w8), .second, .val (.long w9), .second] [(.int (XT.cmpL (own_after gj4 o3 dj4) w9))])) (fun t k => ?_) ?_
          · show Steps p.tables e below (T363.setTop (mkF m 229 #[.val (.long p1), .second, .val (.long p2), .second, .val (.long p3), .second, .val (.int p4), .val (.long w1), .second, .val (.int w2), .val (.int w3), .val (.int w4), .val (.int w5), .val (.ref ad280), .val (.int w6), .val (.long w7), .second, .val (.long w8), .second, .val (.long w9), .second] [(.long (own_after gj4 o3 dj4))])) _
            refine XT.lload X363.here hx rfl (hb hby at_229) rfl ?_
            show Steps p.tables e below (T363.setTop (mkF m 231 #[.val (.long p1), .second, .val (.long p2), .second, .val (.long p3), .second, .val (.int p4), .val (.long w1), .second, .val (.int w2), .val (.int w3), .val (.int w4), .val (.int w5), .val (.ref ad280), .val (.int w6), .val (.long w7), .second, .val (.long w8), .second, .val (.long w9), .second] [(.long w9), (.long (own_after gj4 o3 dj4))])) _
            refine XT.lcmp X363.here hx rfl (hb hby at_231) rfl ?_
            show Steps p.tables e below (T363.setTop (mkF m 232 #[.val (.long p1), .second, .val (.long p2), .second, .val (.long p3), .second, .val (.int p4), .val (.long w1), .second, .val (.int w2), .val (.int w3), .val (.int w4), .val (.int w5), .val (.ref ad280), .val (.int w6), .val (.long w7), .second, .val (.long w8), .second, .val (.long w9), .second] [(.int (XT.cmpL (own_after gj4 o3 dj4) w9))])) _
            exact k
          obtain ⟨w10, qw10⟩ : ∃ z : Int32, z = (if (own_after gj4 o3 dj4) = w9 then (1 : Int32) else (0 : Int32)) := ⟨_, rfl⟩
          refine OwnWp.step (U' := T363.setTop (mkF m 240 #[.val (.long p1), .second, .val (.long p2), .second, .val (.long p3), .second, .val (.int p4), .val (.long w1), .second, .val (.int w2), .val (.int w3), .val (.int w4), .val (.int w5), .val (.ref ad280), .val (.int w6), .val (.long w7), .second, .val (.long w8), .second, .val (.long w9), .second] [(.int w10)])) (fun t k => ?_) ?_
          · show Steps p.tables e below (T363.setTop (mkF m 232 #[.val (.long p1), .second, .val (.long p2), .second, .val (.long p3), .second, .val (.int p4), .val (.long w1), .second, .val (.int w2), .val (.int w3), .val (.int w4), .val (.int w5), .val (.ref ad280), .val (.int w6), .val (.long w7), .second, .val (.long w8), .second, .val (.long w9), .second] [(.int (XT.cmpL (own_after gj4 o3 dj4) w9))])) _
            by_cases c232_364 : (own_after gj4 o3 dj4) = w9
            · refine XS.ifNo X363.here hx rfl (hb hby at_232) rfl (XT.ll_ne_f c232_364) ?_
              show Steps p.tables e below (T363.setTop (mkF m 235 #[.val (.long p1), .second, .val (.long p2), .second, .val (.long p3), .second, .val (.int p4), .val (.long w1), .second, .val (.int w2), .val (.int w3), .val (.int w4), .val (.int w5), .val (.ref ad280), .val (.int w6), .val (.long w7), .second, .val (.long w8), .second, .val (.long w9), .second] [])) _
              refine XT.iconstV X363.here hx rfl (1 : Int32) (hb hby at_235) rfl ?_
              show Steps p.tables e below (T363.setTop (mkF m 236 #[.val (.long p1), .second, .val (.long p2), .second, .val (.long p3), .second, .val (.int p4), .val (.long w1), .second, .val (.int w2), .val (.int w3), .val (.int w4), .val (.int w5), .val (.ref ad280), .val (.int w6), .val (.long w7), .second, .val (.long w8), .second, .val (.long w9), .second] [(.int (1 : Int32))])) _
              refine XS.goto X363.here hx rfl (pc0 := 236) (pc' := 240) rfl (hb hby at_236) (by decide) (by decide) ?_
              show Steps p.tables e below (T363.setTop (mkF m 240 #[.val (.long p1), .second, .val (.long p2), .second, .val (.long p3), .second, .val (.int p4), .val (.long w1), .second, .val (.int w2), .val (.int w3), .val (.int w4), .val (.int w5), .val (.ref ad280), .val (.int w6), .val (.long w7), .second, .val (.long w8), .second, .val (.long w9), .second] [(.int (1 : Int32))])) _
              rw [show w10 = (1 : Int32) from by rw [qw10, if_pos c232_364]] at k
              exact k
            · refine XS.ifYes X363.here hx rfl (pc0 := 232) (pc' := 239) rfl (hb hby at_232) rfl (XT.ll_ne_t c232_364) (by decide) (by decide) ?_
              show Steps p.tables e below (T363.setTop (mkF m 239 #[.val (.long p1), .second, .val (.long p2), .second, .val (.long p3), .second, .val (.int p4), .val (.long w1), .second, .val (.int w2), .val (.int w3), .val (.int w4), .val (.int w5), .val (.ref ad280), .val (.int w6), .val (.long w7), .second, .val (.long w8), .second, .val (.long w9), .second] [])) _
              refine XT.iconstV X363.here hx rfl (0 : Int32) (hb hby at_239) rfl ?_
              show Steps p.tables e below (T363.setTop (mkF m 240 #[.val (.long p1), .second, .val (.long p2), .second, .val (.long p3), .second, .val (.int p4), .val (.long w1), .second, .val (.int w2), .val (.int w3), .val (.int w4), .val (.int w5), .val (.ref ad280), .val (.int w6), .val (.long w7), .second, .val (.long w8), .second, .val (.long w9), .second] [(.int (0 : Int32))])) _
              rw [show w10 = (0 : Int32) from by rw [qw10, if_neg c232_364]] at k
              exact k
          have hfin := own_lawB p4 w1 qw1 w2 qw2 w3 qw3 w4 qw4 w5 qw5 o1 s1 d1 hq1 dj1 gj1 hdj1 hgj1 o2 s2 d2 hq2 dj2 gj2 hdj2 hgj2 o3 s3 d3 hq3 dj3 gj3 hdj3 hgj3 dj4 gj4 hdj4 hgj4 w6 qw6 w7 qw7 w8 qw8 w9 qw9 w10 qw10
          refine OwnWp.retZ X363 hx hlk Bd.returns (hb hby at_240) (by decide) (by decide) (Or.inr hfin) ?_
          exact ⟨by rw [hfin], N363⟩
        by_cases c134_365 : w5 = (0 : Int32)
        · refine OwnWp.step (U' := T338.setTop (mkF m 142 #[.val (.long p1), .second, .val (.long p2), .second, .val (.long p3), .second, .val (.int p4), .val (.long w1), .second, .val (.int w2), .val (.int w3), .val (.int w4), .val (.int w5), .val (.ref ad280), .unset, .unset, .unset, .unset, .unset, .unset, .unset] [])) (fun t k => ?_) ?_
          · show Steps p.tables e below (T338.setTop (mkF m 134 #[.val (.long p1), .second, .val (.long p2), .second, .val (.long p3), .second, .val (.int p4), .val (.long w1), .second, .val (.int w2), .val (.int w3), .val (.int w4), .val (.int w5), .val (.ref ad280), .unset, .unset, .unset, .unset, .unset, .unset, .unset] [(.int w5)])) _
            refine XS.ifYes X338.here hx rfl (pc0 := 134) (pc' := 142) rfl (hb hby at_134) rfl (XT.i0_eq_t c134_365) (by decide) (by decide) ?_
            exact k
          exact J4  T338 h338 _ dj3 gj3 X338 e338 N338 Z338 f339 f340 f341 f342 f343 f344 f345 f346  (by rw [if_pos c134_365]) (by rw [if_pos c134_365])
        · refine OwnWp.step (U' := T338.setTop (mkF m 137 #[.val (.long p1), .second, .val (.long p2), .second, .val (.long p3), .second, .val (.int p4), .val (.long w1), .second, .val (.int w2), .val (.int w3), .val (.int w4), .val (.int w5), .val (.ref ad280), .unset, .unset, .unset, .unset, .unset, .unset, .unset] [])) (fun t k => ?_) ?_
          · show Steps p.tables e below (T338.setTop (mkF m 134 #[.val (.long p1), .second, .val (.long p2), .second, .val (.long p3), .second, .val (.int p4), .val (.long w1), .second, .val (.int w2), .val (.int w3), .val (.int w4), .val (.int w5), .val (.ref ad280), .unset, .unset, .unset, .unset, .unset, .unset, .unset] [(.int w5)])) _
            refine XS.ifNo X338.here hx rfl (hb hby at_134) rfl (XT.i0_eq_f c134_365) ?_
            exact k
          refine OwnWp.step (U' := T338.setTop (mkF m 139 #[.val (.long p1), .second, .val (.long p2), .second, .val (.long p3), .second, .val (.int p4), .val (.long w1), .second, .val (.int w2), .val (.int w3), .val (.int w4), .val (.int w5), .val (.ref ad280), .unset, .unset, .unset, .unset, .unset, .unset, .unset] [(.ref ad280)])) (fun t k => ?_) ?_
          · show Steps p.tables e below (T338.setTop (mkF m 137 #[.val (.long p1), .second, .val (.long p2), .second, .val (.long p3), .second, .val (.int p4), .val (.long w1), .second, .val (.int w2), .val (.int w3), .val (.int w4), .val (.int w5), .val (.ref ad280), .unset, .unset, .unset, .unset, .unset, .unset, .unset] [])) _
            refine XS.aload X338.here hx rfl (hb hby at_137) rfl rfl ?_
            show Steps p.tables e below (T338.setTop (mkF m 139 #[.val (.long p1), .second, .val (.long p2), .second, .val (.long p3), .second, .val (.int p4), .val (.long w1), .second, .val (.int w2), .val (.int w3), .val (.int w4), .val (.int w5), .val (.ref ad280), .unset, .unset, .unset, .unset, .unset, .unset, .unset] [(.ref ad280)])) _
            exact k
          obtain ⟨cq366, kq366, qa366, qb366, qc366⟩ := isOf hZ e338 f339
          obtain ⟨_, _, ⟨T366, L366, k366, n366⟩, -, X366, ⟨Lc366, hQ366, l366, y366, z366⟩, st366⟩ := X338.virtualBack hx (y := (⟨"com/example/tynemouth/tynemouth/control/ArrivalWindow", "admitNewest", "()V"⟩ : MethodName)) (z := (⟨"com/example/tynemouth/tynemouth/control/ArrivalWindow", "admitNewest", "()V"⟩ : MethodName)) hown (mvT hZ (hw _ (List.mem_of_getElem? (i := 45) rfl))) (mvT hZ (hw _ (List.mem_of_getElem? (i := 46) rfl))) (notFace_of_selects (args := #[]) (mvT hZ (hw _ (List.mem_of_getElem? (i := 48) rfl)))) (mvT hZ (hw _ (List.mem_of_getElem? (i := 48) rfl))) (mvT hZ (hw _ (List.mem_of_getElem? (i := 47) rfl))) (by decide) (backOf (W := 0) (rm8 l Z a0 hw [] ad280  ba286 bb286 fi3 gj3 o3 (s3 + (1 : Int32)) dj3 h338 n0 Z338 b280 la286 lb286 na286 nb286 nc286 f339 f340 f341 f342 f343 f344 f345 f346 ho3 ⟨hsp3.1, by omega⟩ hsp3.2.2) hZ (hw _ (List.mem_of_getElem? (i := 49) rfl)) (hw _ (List.mem_of_getElem? (i := 2) rfl)) (by decide) (by decide)) qa366 qc366 (g := (mkF m 139 #[.val (.long p1), .second, .val (.long p2), .second, .val (.long p3), .second, .val (.int p4), .val (.long w1), .second, .val (.int w2), .val (.int w3), .val (.int w4), .val (.int w5), .val (.ref ad280), .unset, .unset, .unset, .unset, .unset, .unset, .unset] [(.ref ad280)])) rfl (by rw [hml]; rfl) (Steps.refl _) (argsL := []) (rest := []) (lenOf pd_8 rfl) rfl (by show 2 * 0 + _ ≤ _; exact Nat.le_of_eq rfl) (hb hby at_139) (fun _ _ => ⟨rfl, e338, (by dsimp only [Pt.cells]; decide), (by dsimp only [Pt.slots]; decide)⟩)
          dsimp only [Pt.U, Pt.locs, Pt.cells, Pt.slots] at X366 l366 y366 z366 st366 hQ366
          subst l366 y366 z366
          obtain ⟨rfl, Nc366, Kc366, fa366, fb366, fc366, fd366, fe366, gb366⟩ := hQ366
          have N366 := Fr.app N338 Nc366
          refine OwnWp.go st366 ?_
          have Z366 : n0 ≤ T366.heap.size := Nat.le_trans Z338 Kc366.1
          have f367 := Exa.keep f339 Kc366
          have f373 := OwnA.keep f345 Kc366 (ninS na286.symm (ninS nc286 nin0))
          show OwnWp p e below s _ _ _ (T366.setTop (mkF m 142 #[.val (.long p1), .second, .val (.long p2), .second, .val (.long p3), .second, .val (.int p4), .val (.long w1), .second, .val (.int w2), .val (.int w3), .val (.int w4), .val (.int w5), .val (.ref ad280), .unset, .unset, .unset, .unset, .unset, .unset, .unset] []))
          exact J4  T366 T366.heap _ (own_admD gj3 (((o3 + (s3 + (1 : Int32))) - (1 : Int32)) % (16 : Int32)).toInt dj3) (own_adm gj3 (((o3 + (s3 + (1 : Int32))) - (1 : Int32)) % (16 : Int32)).toInt) X366 (rfl : T366.heap = T366.heap) N366 Z366 f367 fa366 fb366 fc366 fd366 fe366 f373 gb366  (by rw [if_neg c134_365]) (by rw [if_neg c134_365])
      by_cases c124_375 : w4 = (0 : Int32)
      · refine OwnWp.step (U' := T329.setTop (mkF m 132 #[.val (.long p1), .second, .val (.long p2), .second, .val (.long p3), .second, .val (.int p4), .val (.long w1), .second, .val (.int w2), .val (.int w3), .val (.int w4), .val (.int w5), .val (.ref ad280), .unset, .unset, .unset, .unset, .unset, .unset, .unset] [])) (fun t k => ?_) ?_
        · show Steps p.tables e below (T329.setTop (mkF m 124 #[.val (.long p1), .second, .val (.long p2), .second, .val (.long p3), .second, .val (.int p4), .val (.long w1), .second, .val (.int w2), .val (.int w3), .val (.int w4), .val (.int w5), .val (.ref ad280), .unset, .unset, .unset, .unset, .unset, .unset, .unset] [(.int w4)])) _
          refine XS.ifYes X329.here hx rfl (pc0 := 124) (pc' := 132) rfl (hb hby at_124) rfl (XT.i0_eq_t c124_375) (by decide) (by decide) ?_
          exact k
        exact J3  T329 T329.heap _ d3 (ownUpd gj2 ((o3 + s3) % (16 : Int32)).toInt (nar .boolean (0 : Int32))) X329 (rfl : T329.heap = T329.heap) N329 Z329 f330 fa329 fb329 fc329 fd329 fe329 ga329 gb329  (by rw [if_pos c124_375]) (by rw [if_pos c124_375])
      · refine OwnWp.step (U' := T329.setTop (mkF m 127 #[.val (.long p1), .second, .val (.long p2), .second, .val (.long p3), .second, .val (.int p4), .val (.long w1), .second, .val (.int w2), .val (.int w3), .val (.int w4), .val (.int w5), .val (.ref ad280), .unset, .unset, .unset, .unset, .unset, .unset, .unset] [])) (fun t k => ?_) ?_
        · show Steps p.tables e below (T329.setTop (mkF m 124 #[.val (.long p1), .second, .val (.long p2), .second, .val (.long p3), .second, .val (.int p4), .val (.long w1), .second, .val (.int w2), .val (.int w3), .val (.int w4), .val (.int w5), .val (.ref ad280), .unset, .unset, .unset, .unset, .unset, .unset, .unset] [(.int w4)])) _
          refine XS.ifNo X329.here hx rfl (hb hby at_124) rfl (XT.i0_eq_f c124_375) ?_
          exact k
        refine OwnWp.step (U' := T329.setTop (mkF m 129 #[.val (.long p1), .second, .val (.long p2), .second, .val (.long p3), .second, .val (.int p4), .val (.long w1), .second, .val (.int w2), .val (.int w3), .val (.int w4), .val (.int w5), .val (.ref ad280), .unset, .unset, .unset, .unset, .unset, .unset, .unset] [(.ref ad280)])) (fun t k => ?_) ?_
        · show Steps p.tables e below (T329.setTop (mkF m 127 #[.val (.long p1), .second, .val (.long p2), .second, .val (.long p3), .second, .val (.int p4), .val (.long w1), .second, .val (.int w2), .val (.int w3), .val (.int w4), .val (.int w5), .val (.ref ad280), .unset, .unset, .unset, .unset, .unset, .unset, .unset] [])) _
          refine XS.aload X329.here hx rfl (hb hby at_127) rfl rfl ?_
          show Steps p.tables e below (T329.setTop (mkF m 129 #[.val (.long p1), .second, .val (.long p2), .second, .val (.long p3), .second, .val (.int p4), .val (.long w1), .second, .val (.int w2), .val (.int w3), .val (.int w4), .val (.int w5), .val (.ref ad280), .unset, .unset, .unset, .unset, .unset, .unset, .unset] [(.ref ad280)])) _
          exact k
        obtain ⟨cq376, kq376, qa376, qb376, qc376⟩ := isOf hZ (rfl : T329.heap = T329.heap) f330
        obtain ⟨_, _, ⟨T376, L376, k376, n376⟩, -, X376, ⟨Lc376, hQ376, l376, y376, z376⟩, st376⟩ := X329.virtualBack hx (y := (⟨"com/example/tynemouth/tynemouth/control/ArrivalWindow", "admitNewest", "()V"⟩ : MethodName)) (z := (⟨"com/example/tynemouth/tynemouth/control/ArrivalWindow", "admitNewest", "()V"⟩ : MethodName)) hown (mvT hZ (hw _ (List.mem_of_getElem? (i := 45) rfl))) (mvT hZ (hw _ (List.mem_of_getElem? (i := 46) rfl))) (notFace_of_selects (args := #[]) (mvT hZ (hw _ (List.mem_of_getElem? (i := 48) rfl)))) (mvT hZ (hw _ (List.mem_of_getElem? (i := 48) rfl))) (mvT hZ (hw _ (List.mem_of_getElem? (i := 47) rfl))) (by decide) (backOf (W := 0) (rm8 l Z a0 hw [] ad280  ba286 bb286 fi3 (ownUpd gj2 ((o3 + s3) % (16 : Int32)).toInt (nar .boolean (0 : Int32))) o3 (s3 + (1 : Int32)) d3 T329.heap n0 Z329 b280 la286 lb286 na286 nb286 nc286 f330 fa329 fb329 fc329 fd329 fe329 ga329 gb329 ho3 ⟨hsp3.1, by omega⟩ hsp3.2.2) hZ (hw _ (List.mem_of_getElem? (i := 49) rfl)) (hw _ (List.mem_of_getElem? (i := 2) rfl)) (by decide) (by decide)) qa376 qc376 (g := (mkF m 129 #[.val (.long p1), .second, .val (.long p2), .second, .val (.long p3), .second, .val (.int p4), .val (.long w1), .second, .val (.int w2), .val (.int w3), .val (.int w4), .val (.int w5), .val (.ref ad280), .unset, .unset, .unset, .unset, .unset, .unset, .unset] [(.ref ad280)])) rfl (by rw [hml]; rfl) (Steps.refl _) (argsL := []) (rest := []) (lenOf pd_8 rfl) rfl (by show 2 * 0 + _ ≤ _; exact Nat.le_of_eq rfl) (hb hby at_129) (fun _ _ => ⟨rfl, (rfl : T329.heap = T329.heap), (by dsimp only [Pt.cells]; decide), (by dsimp only [Pt.slots]; decide)⟩)
        dsimp only [Pt.U, Pt.locs, Pt.cells, Pt.slots] at X376 l376 y376 z376 st376 hQ376
        subst l376 y376 z376
        obtain ⟨rfl, Nc376, Kc376, fa376, fb376, fc376, fd376, fe376, gb376⟩ := hQ376
        have N376 := Fr.app N329 Nc376
        refine OwnWp.go st376 ?_
        have Z376 : n0 ≤ T376.heap.size := Nat.le_trans Z329 Kc376.1
        have f377 := Exa.keep f330 Kc376
        have f383 := OwnA.keep ga329 Kc376 (ninS na286.symm (ninS nc286 nin0))
        show OwnWp p e below s _ _ _ (T376.setTop (mkF m 132 #[.val (.long p1), .second, .val (.long p2), .second, .val (.long p3), .second, .val (.int p4), .val (.long w1), .second, .val (.int w2), .val (.int w3), .val (.int w4), .val (.int w5), .val (.ref ad280), .unset, .unset, .unset, .unset, .unset, .unset, .unset] []))
        exact J3  T376 T376.heap _ (own_admD (ownUpd gj2 ((o3 + s3) % (16 : Int32)).toInt (nar .boolean (0 : Int32))) (((o3 + (s3 + (1 : Int32))) - (1 : Int32)) % (16 : Int32)).toInt d3) (own_adm (ownUpd gj2 ((o3 + s3) % (16 : Int32)).toInt (nar .boolean (0 : Int32))) (((o3 + (s3 + (1 : Int32))) - (1 : Int32)) % (16 : Int32)).toInt) X376 (rfl : T376.heap = T376.heap) N376 Z376 f377 fa376 fb376 fc376 fd376 fe376 f383 gb376  (by rw [if_neg c124_375]) (by rw [if_neg c124_375])
    by_cases c105_385 : w3 = (0 : Int32)
    · refine OwnWp.step (U' := T311.setTop (mkF m 113 #[.val (.long p1), .second, .val (.long p2), .second, .val (.long p3), .second, .val (.int p4), .val (.long w1), .second, .val (.int w2), .val (.int w3), .val (.int w4), .val (.int w5), .val (.ref ad280), .unset, .unset, .unset, .unset, .unset, .unset, .unset] [])) (fun t k => ?_) ?_
      · show Steps p.tables e below (T311.setTop (mkF m 105 #[.val (.long p1), .second, .val (.long p2), .second, .val (.long p3), .second, .val (.int p4), .val (.long w1), .second, .val (.int w2), .val (.int w3), .val (.int w4), .val (.int w5), .val (.ref ad280), .unset, .unset, .unset, .unset, .unset, .unset, .unset] [(.int w3)])) _
        refine XS.ifYes X311.here hx rfl (pc0 := 105) (pc' := 113) rfl (hb hby at_105) rfl (XT.i0_eq_t c105_385) (by decide) (by decide) ?_
        exact k
      exact J2  T311 T311.heap _ d2 (ownUpd gj1 ((o2 + s2) % (16 : Int32)).toInt (nar .boolean (0 : Int32))) X311 (rfl : T311.heap = T311.heap) N311 Z311 f312 fa311 fb311 fc311 fd311 fe311 ga311 gb311  (by rw [if_pos c105_385]) (by rw [if_pos c105_385])
    · refine OwnWp.step (U' := T311.setTop (mkF m 108 #[.val (.long p1), .second, .val (.long p2), .second, .val (.long p3), .second, .val (.int p4), .val (.long w1), .second, .val (.int w2), .val (.int w3), .val (.int w4), .val (.int w5), .val (.ref ad280), .unset, .unset, .unset, .unset, .unset, .unset, .unset] [])) (fun t k => ?_) ?_
      · show Steps p.tables e below (T311.setTop (mkF m 105 #[.val (.long p1), .second, .val (.long p2), .second, .val (.long p3), .second, .val (.int p4), .val (.long w1), .second, .val (.int w2), .val (.int w3), .val (.int w4), .val (.int w5), .val (.ref ad280), .unset, .unset, .unset, .unset, .unset, .unset, .unset] [(.int w3)])) _
        refine XS.ifNo X311.here hx rfl (hb hby at_105) rfl (XT.i0_eq_f c105_385) ?_
        exact k
      refine OwnWp.step (U' := T311.setTop (mkF m 110 #[.val (.long p1), .second, .val (.long p2), .second, .val (.long p3), .second, .val (.int p4), .val (.long w1), .second, .val (.int w2), .val (.int w3), .val (.int w4), .val (.int w5), .val (.ref ad280), .unset, .unset, .unset, .unset, .unset, .unset, .unset] [(.ref ad280)])) (fun t k => ?_) ?_
      · show Steps p.tables e below (T311.setTop (mkF m 108 #[.val (.long p1), .second, .val (.long p2), .second, .val (.long p3), .second, .val (.int p4), .val (.long w1), .second, .val (.int w2), .val (.int w3), .val (.int w4), .val (.int w5), .val (.ref ad280), .unset, .unset, .unset, .unset, .unset, .unset, .unset] [])) _
        refine XS.aload X311.here hx rfl (hb hby at_108) rfl rfl ?_
        show Steps p.tables e below (T311.setTop (mkF m 110 #[.val (.long p1), .second, .val (.long p2), .second, .val (.long p3), .second, .val (.int p4), .val (.long w1), .second, .val (.int w2), .val (.int w3), .val (.int w4), .val (.int w5), .val (.ref ad280), .unset, .unset, .unset, .unset, .unset, .unset, .unset] [(.ref ad280)])) _
        exact k
      obtain ⟨cq386, kq386, qa386, qb386, qc386⟩ := isOf hZ (rfl : T311.heap = T311.heap) f312
      obtain ⟨_, _, ⟨T386, L386, k386, n386⟩, -, X386, ⟨Lc386, hQ386, l386, y386, z386⟩, st386⟩ := X311.virtualBack hx (y := (⟨"com/example/tynemouth/tynemouth/control/ArrivalWindow", "admitNewest", "()V"⟩ : MethodName)) (z := (⟨"com/example/tynemouth/tynemouth/control/ArrivalWindow", "admitNewest", "()V"⟩ : MethodName)) hown (mvT hZ (hw _ (List.mem_of_getElem? (i := 45) rfl))) (mvT hZ (hw _ (List.mem_of_getElem? (i := 46) rfl))) (notFace_of_selects (args := #[]) (mvT hZ (hw _ (List.mem_of_getElem? (i := 48) rfl)))) (mvT hZ (hw _ (List.mem_of_getElem? (i := 48) rfl))) (mvT hZ (hw _ (List.mem_of_getElem? (i := 47) rfl))) (by decide) (backOf (W := 0) (rm8 l Z a0 hw [] ad280  ba286 bb286 fi2 (ownUpd gj1 ((o2 + s2) % (16 : Int32)).toInt (nar .boolean (0 : Int32))) o2 (s2 + (1 : Int32)) d2 T311.heap n0 Z311 b280 la286 lb286 na286 nb286 nc286 f312 fa311 fb311 fc311 fd311 fe311 ga311 gb311 ho2 ⟨hsp2.1, by omega⟩ hsp2.2.2) hZ (hw _ (List.mem_of_getElem? (i := 49) rfl)) (hw _ (List.mem_of_getElem? (i := 2) rfl)) (by decide) (by decide)) qa386 qc386 (g := (mkF m 110 #[.val (.long p1), .second, .val (.long p2), .second, .val (.long p3), .second, .val (.int p4), .val (.long w1), .second, .val (.int w2), .val (.int w3), .val (.int w4), .val (.int w5), .val (.ref ad280), .unset, .unset, .unset, .unset, .unset, .unset, .unset] [(.ref ad280)])) rfl (by rw [hml]; rfl) (Steps.refl _) (argsL := []) (rest := []) (lenOf pd_8 rfl) rfl (by show 2 * 0 + _ ≤ _; exact Nat.le_of_eq rfl) (hb hby at_110) (fun _ _ => ⟨rfl, (rfl : T311.heap = T311.heap), (by dsimp only [Pt.cells]; decide), (by dsimp only [Pt.slots]; decide)⟩)
      dsimp only [Pt.U, Pt.locs, Pt.cells, Pt.slots] at X386 l386 y386 z386 st386 hQ386
      subst l386 y386 z386
      obtain ⟨rfl, Nc386, Kc386, fa386, fb386, fc386, fd386, fe386, gb386⟩ := hQ386
      have N386 := Fr.app N311 Nc386
      refine OwnWp.go st386 ?_
      have Z386 : n0 ≤ T386.heap.size := Nat.le_trans Z311 Kc386.1
      have f387 := Exa.keep f312 Kc386
      have f393 := OwnA.keep ga311 Kc386 (ninS na286.symm (ninS nc286 nin0))
      show OwnWp p e below s _ _ _ (T386.setTop (mkF m 113 #[.val (.long p1), .second, .val (.long p2), .second, .val (.long p3), .second, .val (.int p4), .val (.long w1), .second, .val (.int w2), .val (.int w3), .val (.int w4), .val (.int w5), .val (.ref ad280), .unset, .unset, .unset, .unset, .unset, .unset, .unset] []))
      exact J2  T386 T386.heap _ (own_admD (ownUpd gj1 ((o2 + s2) % (16 : Int32)).toInt (nar .boolean (0 : Int32))) (((o2 + (s2 + (1 : Int32))) - (1 : Int32)) % (16 : Int32)).toInt d2) (own_adm (ownUpd gj1 ((o2 + s2) % (16 : Int32)).toInt (nar .boolean (0 : Int32))) (((o2 + (s2 + (1 : Int32))) - (1 : Int32)) % (16 : Int32)).toInt) X386 (rfl : T386.heap = T386.heap) N386 Z386 f387 fa386 fb386 fc386 fd386 fe386 f393 gb386  (by rw [if_neg c105_385]) (by rw [if_neg c105_385])
  by_cases c87_395 : w2 = (0 : Int32)
  · refine OwnWp.step (U' := T293.setTop (mkF m 95 #[.val (.long p1), .second, .val (.long p2), .second, .val (.long p3), .second, .val (.int p4), .val (.long w1), .second, .val (.int w2), .val (.int w3), .val (.int w4), .val (.int w5), .val (.ref ad280), .unset, .unset, .unset, .unset, .unset, .unset, .unset] [])) (fun t k => ?_) ?_
    · show Steps p.tables e below (T293.setTop (mkF m 87 #[.val (.long p1), .second, .val (.long p2), .second, .val (.long p3), .second, .val (.int p4), .val (.long w1), .second, .val (.int w2), .val (.int w3), .val (.int w4), .val (.int w5), .val (.ref ad280), .unset, .unset, .unset, .unset, .unset, .unset, .unset] [(.int w2)])) _
      refine XS.ifYes X293.here hx rfl (pc0 := 87) (pc' := 95) rfl (hb hby at_87) rfl (XT.i0_eq_t c87_395) (by decide) (by decide) ?_
      exact k
    exact J1  T293 T293.heap _ d1 (ownUpd (fun _ => (0 : Int32)) ((o1 + s1) % (16 : Int32)).toInt (nar .boolean (0 : Int32))) X293 (rfl : T293.heap = T293.heap) N293 Z293 f294 fa293 fb293 fc293 fd293 fe293 ga293 gb293  (by rw [if_pos c87_395]) (by rw [if_pos c87_395])
  · refine OwnWp.step (U' := T293.setTop (mkF m 90 #[.val (.long p1), .second, .val (.long p2), .second, .val (.long p3), .second, .val (.int p4), .val (.long w1), .second, .val (.int w2), .val (.int w3), .val (.int w4), .val (.int w5), .val (.ref ad280), .unset, .unset, .unset, .unset, .unset, .unset, .unset] [])) (fun t k => ?_) ?_
    · show Steps p.tables e below (T293.setTop (mkF m 87 #[.val (.long p1), .second, .val (.long p2), .second, .val (.long p3), .second, .val (.int p4), .val (.long w1), .second, .val (.int w2), .val (.int w3), .val (.int w4), .val (.int w5), .val (.ref ad280), .unset, .unset, .unset, .unset, .unset, .unset, .unset] [(.int w2)])) _
      refine XS.ifNo X293.here hx rfl (hb hby at_87) rfl (XT.i0_eq_f c87_395) ?_
      exact k
    refine OwnWp.step (U' := T293.setTop (mkF m 92 #[.val (.long p1), .second, .val (.long p2), .second, .val (.long p3), .second, .val (.int p4), .val (.long w1), .second, .val (.int w2), .val (.int w3), .val (.int w4), .val (.int w5), .val (.ref ad280), .unset, .unset, .unset, .unset, .unset, .unset, .unset] [(.ref ad280)])) (fun t k => ?_) ?_
    · show Steps p.tables e below (T293.setTop (mkF m 90 #[.val (.long p1), .second, .val (.long p2), .second, .val (.long p3), .second, .val (.int p4), .val (.long w1), .second, .val (.int w2), .val (.int w3), .val (.int w4), .val (.int w5), .val (.ref ad280), .unset, .unset, .unset, .unset, .unset, .unset, .unset] [])) _
      refine XS.aload X293.here hx rfl (hb hby at_90) rfl rfl ?_
      show Steps p.tables e below (T293.setTop (mkF m 92 #[.val (.long p1), .second, .val (.long p2), .second, .val (.long p3), .second, .val (.int p4), .val (.long w1), .second, .val (.int w2), .val (.int w3), .val (.int w4), .val (.int w5), .val (.ref ad280), .unset, .unset, .unset, .unset, .unset, .unset, .unset] [(.ref ad280)])) _
      exact k
    obtain ⟨cq396, kq396, qa396, qb396, qc396⟩ := isOf hZ (rfl : T293.heap = T293.heap) f294
    obtain ⟨_, _, ⟨T396, L396, k396, n396⟩, -, X396, ⟨Lc396, hQ396, l396, y396, z396⟩, st396⟩ := X293.virtualBack hx (y := (⟨"com/example/tynemouth/tynemouth/control/ArrivalWindow", "admitNewest", "()V"⟩ : MethodName)) (z := (⟨"com/example/tynemouth/tynemouth/control/ArrivalWindow", "admitNewest", "()V"⟩ : MethodName)) hown (mvT hZ (hw _ (List.mem_of_getElem? (i := 45) rfl))) (mvT hZ (hw _ (List.mem_of_getElem? (i := 46) rfl))) (notFace_of_selects (args := #[]) (mvT hZ (hw _ (List.mem_of_getElem? (i := 48) rfl)))) (mvT hZ (hw _ (List.mem_of_getElem? (i := 48) rfl))) (mvT hZ (hw _ (List.mem_of_getElem? (i := 47) rfl))) (by decide) (backOf (W := 0) (rm8 l Z a0 hw [] ad280  ba286 bb286 fi1 (ownUpd (fun _ => (0 : Int32)) ((o1 + s1) % (16 : Int32)).toInt (nar .boolean (0 : Int32))) o1 (s1 + (1 : Int32)) d1 T293.heap n0 Z293 b280 la286 lb286 na286 nb286 nc286 f294 fa293 fb293 fc293 fd293 fe293 ga293 gb293 ho1 ⟨hsp1.1, by omega⟩ hsp1.2.2) hZ (hw _ (List.mem_of_getElem? (i := 49) rfl)) (hw _ (List.mem_of_getElem? (i := 2) rfl)) (by decide) (by decide)) qa396 qc396 (g := (mkF m 92 #[.val (.long p1), .second, .val (.long p2), .second, .val (.long p3), .second, .val (.int p4), .val (.long w1), .second, .val (.int w2), .val (.int w3), .val (.int w4), .val (.int w5), .val (.ref ad280), .unset, .unset, .unset, .unset, .unset, .unset, .unset] [(.ref ad280)])) rfl (by rw [hml]; rfl) (Steps.refl _) (argsL := []) (rest := []) (lenOf pd_8 rfl) rfl (by show 2 * 0 + _ ≤ _; exact Nat.le_of_eq rfl) (hb hby at_92) (fun _ _ => ⟨rfl, (rfl : T293.heap = T293.heap), (by dsimp only [Pt.cells]; decide), (by dsimp only [Pt.slots]; decide)⟩)
    dsimp only [Pt.U, Pt.locs, Pt.cells, Pt.slots] at X396 l396 y396 z396 st396 hQ396
    subst l396 y396 z396
    obtain ⟨rfl, Nc396, Kc396, fa396, fb396, fc396, fd396, fe396, gb396⟩ := hQ396
    have N396 := Fr.app N293 Nc396
    refine OwnWp.go st396 ?_
    have Z396 : n0 ≤ T396.heap.size := Nat.le_trans Z293 Kc396.1
    have f397 := Exa.keep f294 Kc396
    have f403 := OwnA.keep ga293 Kc396 (ninS na286.symm (ninS nc286 nin0))
    show OwnWp p e below s _ _ _ (T396.setTop (mkF m 95 #[.val (.long p1), .second, .val (.long p2), .second, .val (.long p3), .second, .val (.int p4), .val (.long w1), .second, .val (.int w2), .val (.int w3), .val (.int w4), .val (.int w5), .val (.ref ad280), .unset, .unset, .unset, .unset, .unset, .unset, .unset] []))
    exact J1  T396 T396.heap _ (own_admD (ownUpd (fun _ => (0 : Int32)) ((o1 + s1) % (16 : Int32)).toInt (nar .boolean (0 : Int32))) (((o1 + (s1 + (1 : Int32))) - (1 : Int32)) % (16 : Int32)).toInt d1) (own_adm (ownUpd (fun _ => (0 : Int32)) ((o1 + s1) % (16 : Int32)).toInt (nar .boolean (0 : Int32))) (((o1 + (s1 + (1 : Int32))) - (1 : Int32)) % (16 : Int32)).toInt) X396 (rfl : T396.heap = T396.heap) N396 Z396 f397 fa396 fb396 fc396 fd396 fe396 f403 gb396  (by rw [if_neg c87_395]) (by rw [if_neg c87_395])
set_option maxRecDepth 65536 in
set_option maxHeartbeats 40000000 in
theorem comes_1 {Post : Tables → Env → Array Value → State → Outcome → State → Prop} (hpost : ∀ tb e args s v u, (limb_1_1.after args s (.returned v) u = true ∧ limb_1_2.after args s (.returned v) u = true ∧ True) → FrameEnd s (.returned v) u (Jvm.fieldLocs frame_1_writes args s ++ Jvm.arrayLocs frame_1_arrays args s ++ Jvm.staticLocs frame_1_statics s) 16 192 → Post tb e args s (.returned v) u) :
    ArmFor flags0 classFile x code maxLocals ret World_1 tables_1 room_1 Calls_1 rest_1 Pre_1 Post := by
  intro l hfl _ _ p e ha hc hk s m args below hf hA hF happ hP
  obtain ⟨hcalls, hrest, hpre⟩ := hP
  obtain ⟨-, -, -, hnamed, -, -, -, hat⟩ := (Spec.applies_iff hf).mp happ
  obtain ⟨hg, hn⟩ := and_e (Cond.before_iff.mp (show (Jvm.Cond.and given_1 narrow_1).before args s = true from hpre))
  obtain ⟨hcount, g0⟩ := and_e hg
  obtain ⟨w0, w1, w2, w3, rfl⟩ : ∃ w0 w1 w2 w3 : Value, args = #[w0, w1, w2, w3] := by
    have hs : args.size = 4 := by simpa [Cond.value, given_1] using hcount
    obtain ⟨L⟩ := args
    match L, hs with
    | [w0, w1, w2, w3], _ => exact ⟨w0, w1, w2, w3, rfl⟩
  have hw := fun d (hd : d ∈ tables_1) => atoms_spec (ws := Jvm.Cond.code x code maxLocals ret :: tables_1) hat d (List.mem_cons_of_mem _ hd)
  obtain ⟨u0, g1⟩ := and_e g0
  obtain ⟨i0, e0⟩ := isL_v u0
  obtain rfl : w0 = (.long i0) := Option.some.inj e0
  obtain ⟨u1, g2⟩ := and_e g1
  obtain ⟨i1, e1⟩ := isL_v u1
  obtain rfl : w1 = (.long i1) := Option.some.inj e1
  obtain ⟨u2, g3⟩ := and_e g2
  obtain ⟨i2, e2⟩ := isL_v u2
  obtain rfl : w2 = (.long i2) := Option.some.inj e2
  obtain ⟨i3, e3⟩ := is_v g3
  obtain rfl : w3 = (.int i3) := Option.some.inj e3
  obtain ⟨n, o, h1, h2, h3, _, L, rfl, ⟨rfl, N⟩, hq⟩ := rm0 l s _ hw tables_1 i0 i1 i2 i3 s.heap s.heap.size (Nat.le_refl _) p e ha hc hk s m _ below hf ((Spec.applies_iff_loose hf).mp happ).1 ⟨rfl, State.Warmed39.refl s, rfl⟩ trivial
  refine ⟨n, _, h1, h2, h3, hpost _ _ _ _ _ _ ⟨Cond.after_iff.mpr rfl, Cond.after_iff.mpr (eq_i res_at (Term.int_eval (1)) rfl), trivial⟩ ⟨hq.1, hq.2.1, (hq.2.2.sift fun y hy => Or.inr (N y hy)).mono (by decide) (by decide)⟩⟩
theorem main_1_1 : Claimed_1_1 := comes_1 fun _ _ _ _ _ _ h hF => ⟨h.1, hF⟩
theorem main_1_2 : Claimed_1_2 := comes_1 fun _ _ _ _ _ _ h hF => ⟨h.2.1, hF⟩
end Jvm.Pilot.@@N@@
namespace Jvm.Pilot.@@N@@
open Jvm Jvm.ClassFile Sem Op Lib Jvm.Free Jvm.Stand Jvm.Pilot.@@N@@.Jvm.D
/-! MADE BY PROGRAM (witnessworld.py) out of the Statement's table words and the real class files: 14 classes; the members and pool entries that the words name. The judged class is class 1, her method 1. -/
namespace start1
open Jvm.ClassFile
def u (s : String) : CpInfo := .utf8 (stringToUtf16 s)
/-- a pool by its gaps: so many unusable entries, then the entry; so many at the end -/
def gap : Nat → List CpInfo → List CpInfo
  | 0, r => r
  | n + 1, r => .unusable :: gap n r
def poolList (es : List (Nat × CpInfo)) (last : Nat) : List CpInfo := es.foldr (fun e r => gap e.1 (e.2 :: r)) (gap last [])
def pool (es : List (Nat × CpInfo)) (last : Nat) : Array CpInfo := ⟨poolList es last⟩
def fileOf (pool : Array CpInfo) (this : Nat) (attrs : Array Attribute := #[]) (ms : Array MethodInfo := #[]) (fl : Nat := 33) (sup : Nat := 0) (ifs : Array Nat := #[]) (fds : Array FieldInfo := #[]) : ClassFile where
  minorVersion := 0
  majorVersion := 65
  constantPool := pool
  accessFlags := fl
  thisClass := this
  superClass := sup
  interfaces := ifs
  fields := fds
  methods := ms
  attributes := attrs
def plain (name : String) (sup : Option ClassId) : Class where
  name := name
  kind := .ordinary
  loader := none
  accessFlags := 33
  super := sup
  interfaces := #[]
  cf := none
  fields := #[]
  methods := #[]
  instanceTypes := #[]
  staticTypes := #[]
  resolved := #[]
  callSites := []
  init := .initialized
  statics := none
  mirror := none

def pool0 : Array CpInfo := pool [(5, u "<init>"), (0, u "()V"), (1, .class_ 10), (1, u "java/lang/Object")] 113

def k0c0 : Code := { maxStack := 0, maxLocals := 1, code := object_method_1_code, exceptionTable := #[], attributes := #[] }
def k0m0 : Method := { name := "<init>", desc := "()V", sig := { parameters := [], returnType := none }, accessFlags := 1, code := some k0c0 }
/-- java/lang/Object -/
def k0 : Class := { plain "java/lang/Object" none with
  accessFlags := 33
  interfaces := #[]
  cf := some (fileOf pool0 8 #[] #[{ accessFlags := 1, nameIndex := 5, descriptorIndex := 6, attributes := #[] }] 33 0 #[] #[])
  fields := #[]
  methods := #[k0m0]
  instanceTypes := #[]
  staticTypes := #[]
  resolved := Array.replicate 124 none
  statics := none }

def pool1 : Array CpInfo := pool [(2, .class_ 4), (0, .nameAndType 5 6), (0, u "java/lang/Object"), (0, u "<init>"), (0, u "()V"), (0, .class_ 8), (0, u "com/example/tynemouth/tynemouth/control/ArrivalWindow"), (0, .methodref 7 3), (0, .methodref 7 11), (0, .nameAndType 12 13), (0, u "add"), (0, u "(JJ)V"), (0, .methodref 7 15), (0, .nameAndType 16 6), (0, u "admitNewest"), (0, .long 3), (1, .methodref 20 21), (0, .class_ 22), (0, .nameAndType 23 24), (0, u "java/lang/Math"), (0, u "min"), (0, u "(JJ)J"), (0, .methodref 7 26), (0, .nameAndType 27 28), (0, u "size"), (0, u "()I"), (0, .methodref 7 30), (0, .nameAndType 31 32), (0, u "admittedAfterOldest"), (0, u "()J"), (0, .class_ 34), (0, u "com/example/tynemouth/tynemouth/control/ArrivalWindowAdmitNewestPinLaw"), (2, u "law"), (0, u "(JJJI)Z")] 3

def k1m0 : Method := { name := "<init>", desc := "()V", sig := { parameters := [], returnType := none }, accessFlags := 1, code := none }
def k1c1 : Code := { maxStack := 5, maxLocals := 21, code := code, exceptionTable := #[], attributes := #[] }
def k1m1 : Method := { name := "law", desc := "(JJJI)Z", sig := { parameters := [.long, .long, .long, .int], returnType := some .boolean }, accessFlags := 9, code := some k1c1 }
/-- com/example/tynemouth/tynemouth/control/ArrivalWindowAdmitNewestPinLaw -/
def k1 : Class := { plain "com/example/tynemouth/tynemouth/control/ArrivalWindowAdmitNewestPinLaw" (some 0) with
  accessFlags := 49
  interfaces := #[]
  cf := some (fileOf pool1 33 #[] #[{ accessFlags := 1, nameIndex := 5, descriptorIndex := 6, attributes := #[] }, { accessFlags := 9, nameIndex := 37, descriptorIndex := 38, attributes := #[] }] 49 2 #[] #[])
  fields := #[]
  methods := #[k1m0, k1m1]
  instanceTypes := #[]
  staticTypes := #[]
  resolved := Array.replicate 42 none
  statics := none }

def pool2 : Array CpInfo := pool [(1, .methodref 2 3), (0, .class_ 4), (0, .nameAndType 5 6), (0, u "java/lang/Object"), (0, u "<init>"), (0, u "()V"), (0, .fieldref 8 9), (0, .class_ 10), (0, .nameAndType 11 12), (0, u "com/example/tynemouth/tynemouth/control/ArrivalWindow"), (0, u "instants"), (0, u "[J"), (0, .fieldref 8 14), (0, .nameAndType 15 16), (0, u "admitted"), (0, u "[Z"), (0, .fieldref 8 18), (0, .nameAndType 19 20), (0, u "size"), (0, u "I"), (0, .methodref 8 22), (0, .nameAndType 23 6), (0, u "dropOldest"), (3, .fieldref 8 28), (0, .nameAndType 29 20), (0, u "oldest"), (0, .fieldref 8 31), (0, .nameAndType 32 33), (0, u "admittedHeld"), (0, u "J"), (2, u "add"), (0, u "(JJ)V"), (1, u "admitNewest"), (1, u "()I"), (1, u "()J"), (0, u "admittedAfterOldest")] 4

def k2c0 : Code := { maxStack := 2, maxLocals := 1, code := prog_21_method_1_code, exceptionTable := #[], attributes := #[] }
def k2m0 : Method := { name := "<init>", desc := "()V", sig := { parameters := [], returnType := none }, accessFlags := 0, code := some k2c0 }
def k2c1 : Code := { maxStack := 4, maxLocals := 6, code := prog_21_method_2_code, exceptionTable := #[], attributes := #[] }
def k2m1 : Method := { name := "add", desc := "(JJ)V", sig := { parameters := [.long, .long], returnType := none }, accessFlags := 0, code := some k2c1 }
def k2c2 : Code := { maxStack := 5, maxLocals := 2, code := prog_21_method_3_code, exceptionTable := #[], attributes := #[] }
def k2m2 : Method := { name := "admitNewest", desc := "()V", sig := { parameters := [], returnType := none }, accessFlags := 0, code := some k2c2 }
def k2c3 : Code := { maxStack := 1, maxLocals := 1, code := prog_21_method_5_code, exceptionTable := #[], attributes := #[] }
def k2m3 : Method := { name := "size", desc := "()I", sig := { parameters := [], returnType := some .int }, accessFlags := 0, code := some k2c3 }
def k2c4 : Code := { maxStack := 4, maxLocals := 1, code := prog_21_method_7_code, exceptionTable := #[], attributes := #[] }
def k2m4 : Method := { name := "admittedAfterOldest", desc := "()J", sig := { parameters := [], returnType := some .long }, accessFlags := 0, code := some k2c4 }
def k2c5 : Code := { maxStack := 5, maxLocals := 1, code := prog_21_method_8_code, exceptionTable := #[], attributes := #[] }
def k2m5 : Method := { name := "dropOldest", desc := "()V", sig := { parameters := [], returnType := none }, accessFlags := 2, code := some k2c5 }
/-- com/example/tynemouth/tynemouth/control/ArrivalWindow -/
def k2 : Class := { plain "com/example/tynemouth/tynemouth/control/ArrivalWindow" (some 0) with
  accessFlags := 48
  interfaces := #[]
  cf := some (fileOf pool2 8 #[] #[{ accessFlags := 0, nameIndex := 5, descriptorIndex := 6, attributes := #[] }, { accessFlags := 0, nameIndex := 36, descriptorIndex := 37, attributes := #[] }, { accessFlags := 0, nameIndex := 39, descriptorIndex := 6, attributes := #[] }, { accessFlags := 0, nameIndex := 19, descriptorIndex := 41, attributes := #[] }, { accessFlags := 0, nameIndex := 44, descriptorIndex := 43, attributes := #[] }, { accessFlags := 2, nameIndex := 23, descriptorIndex := 6, attributes := #[] }] 48 2 #[] #[{ accessFlags := 2, nameIndex := 11, descriptorIndex := 12, attributes := #[] }, { accessFlags := 2, nameIndex := 15, descriptorIndex := 16, attributes := #[] }, { accessFlags := 2, nameIndex := 29, descriptorIndex := 20, attributes := #[] }, { accessFlags := 2, nameIndex := 19, descriptorIndex := 20, attributes := #[] }, { accessFlags := 2, nameIndex := 32, descriptorIndex := 33, attributes := #[] }])
  fields := #[{ name := "instants", type := (.array .long), accessFlags := 2, slot := 0, constantValue := 0 }, { name := "admitted", type := (.array .boolean), accessFlags := 2, slot := 1, constantValue := 0 }, { name := "oldest", type := .int, accessFlags := 2, slot := 2, constantValue := 0 }, { name := "size", type := .int, accessFlags := 2, slot := 3, constantValue := 0 }, { name := "admittedHeld", type := .long, accessFlags := 2, slot := 4, constantValue := 0 }]
  methods := #[k2m0, k2m1, k2m2, k2m3, k2m4, k2m5]
  instanceTypes := #[(.array .long), (.array .boolean), .int, .int, .long]
  staticTypes := #[]
  resolved := Array.replicate 49 none
  statics := none }

def pool3 : Array CpInfo := pool [(1, .class_ 2), (0, u "java/lang/Math"), (1, .class_ 6), (1, u "java/lang/Object"), (0, u "<init>"), (0, u "()V"), (89, .class_ 100), (1, u "java/lang/Math$RandomNumberGeneratorHolder"), (20, u "(JJ)J"), (50, u "negativeZeroFloatBits"), (0, u "J"), (2, u "negativeZeroDoubleBits"), (24, u "min"), (43, u "$assertionsDisabled"), (0, u "Z"), (91, u "twoToTheDoubleScaleDown"), (0, u "D"), (4, u "twoToTheDoubleScaleUp"), (9, u "E"), (3, u "PI"), (2, u "TAU"), (2, u "DEGREES_TO_RADIANS"), (0, u "RADIANS_TO_DEGREES")] 94

def k3m0 : Method := { name := "<init>", desc := "()V", sig := { parameters := [], returnType := none }, accessFlags := 2, code := none }
def k3c1 : Code := { maxStack := 4, maxLocals := 4, code := jdk_29_method_70_code, exceptionTable := #[], attributes := #[] }
def k3m1 : Method := { name := "min", desc := "(JJ)J", sig := { parameters := [.long, .long], returnType := some .long }, accessFlags := 9, code := some k3c1 }
/-- java/lang/Math -/
def k3 : Class := { plain "java/lang/Math" (some 0) with
  accessFlags := 49
  interfaces := #[]
  cf := some (fileOf pool3 1 #[.nestMembers #[98]] #[{ accessFlags := 2, nameIndex := 7, descriptorIndex := 8, attributes := #[] }, { accessFlags := 9, nameIndex := 201, descriptorIndex := 121, attributes := #[] }] 49 4 #[] #[{ accessFlags := 25, nameIndex := 354, descriptorIndex := 339, attributes := #[] }, { accessFlags := 25, nameIndex := 358, descriptorIndex := 339, attributes := #[] }, { accessFlags := 25, nameIndex := 361, descriptorIndex := 339, attributes := #[] }, { accessFlags := 26, nameIndex := 364, descriptorIndex := 339, attributes := #[] }, { accessFlags := 26, nameIndex := 365, descriptorIndex := 339, attributes := #[] }, { accessFlags := 26, nameIndex := 172, descriptorIndex := 173, attributes := #[] }, { accessFlags := 26, nameIndex := 176, descriptorIndex := 173, attributes := #[] }, { accessFlags := 8, nameIndex := 344, descriptorIndex := 339, attributes := #[] }, { accessFlags := 8, nameIndex := 338, descriptorIndex := 339, attributes := #[] }, { accessFlags := 4120, nameIndex := 245, descriptorIndex := 246, attributes := #[] }])
  fields := #[{ name := "E", type := .double, accessFlags := 25, slot := 0, constantValue := 0 }, { name := "PI", type := .double, accessFlags := 25, slot := 1, constantValue := 0 }, { name := "TAU", type := .double, accessFlags := 25, slot := 2, constantValue := 0 }, { name := "DEGREES_TO_RADIANS", type := .double, accessFlags := 26, slot := 3, constantValue := 0 }, { name := "RADIANS_TO_DEGREES", type := .double, accessFlags := 26, slot := 4, constantValue := 0 }, { name := "negativeZeroFloatBits", type := .long, accessFlags := 26, slot := 5, constantValue := 0 }, { name := "negativeZeroDoubleBits", type := .long, accessFlags := 26, slot := 6, constantValue := 0 }, { name := "twoToTheDoubleScaleUp", type := .double, accessFlags := 8, slot := 7, constantValue := 0 }, { name := "twoToTheDoubleScaleDown", type := .double, accessFlags := 8, slot := 8, constantValue := 0 }, { name := "$assertionsDisabled", type := .boolean, accessFlags := 4120, slot := 9, constantValue := 0 }]
  methods := #[k3m0, k3m1]
  instanceTypes := #[]
  staticTypes := #[.double, .double, .double, .double, .double, .long, .long, .double, .double, .boolean]
  resolved := Array.replicate 460 none
  statics := none }

def pool4 : Array CpInfo := pool [(1, u "java/lang/Cloneable"), (0, .class_ 1), (0, u "java/lang/Object"), (0, .class_ 3)] 3

/-- java/lang/Cloneable -/
def k4 : Class := { plain "java/lang/Cloneable" (some 0) with
  accessFlags := 1537
  interfaces := #[]
  cf := some (fileOf pool4 2 #[] #[] 1537 4 #[] #[])
  fields := #[]
  methods := #[]
  instanceTypes := #[]
  staticTypes := #[]
  resolved := Array.replicate 8 none
  statics := none }

def pool5 : Array CpInfo := pool [(1, u "java/io/Serializable"), (0, .class_ 1), (0, u "java/lang/Object"), (0, .class_ 3)] 3

/-- java/io/Serializable -/
def k5 : Class := { plain "java/io/Serializable" (some 0) with
  accessFlags := 1537
  interfaces := #[]
  cf := some (fileOf pool5 2 #[] #[] 1537 4 #[] #[])
  fields := #[]
  methods := #[]
  instanceTypes := #[]
  staticTypes := #[]
  resolved := Array.replicate 8 none
  statics := none }

/-- the primitive boolean -/
def k6 : Class := { plain "boolean" none with kind := .primitive 'Z', accessFlags := 0x411 }
/-- [Z -/
def k7 : Class := { plain "[Z" (some 0) with kind := .array 6 .boolean, interfaces := #[4, 5], accessFlags := 1041 }

/-- the primitive byte -/
def k8 : Class := { plain "byte" none with kind := .primitive 'B', accessFlags := 0x411 }
/-- [B -/
def k9 : Class := { plain "[B" (some 0) with kind := .array 8 .byte, interfaces := #[4, 5], accessFlags := 1041 }

/-- the primitive int -/
def k10 : Class := { plain "int" none with kind := .primitive 'I', accessFlags := 0x411 }
/-- [I -/
def k11 : Class := { plain "[I" (some 0) with kind := .array 10 .int, interfaces := #[4, 5], accessFlags := 1041 }

/-- the primitive long -/
def k12 : Class := { plain "long" none with kind := .primitive 'J', accessFlags := 0x411 }
/-- [J -/
def k13 : Class := { plain "[J" (some 0) with kind := .array 12 .long, interfaces := #[4, 5], accessFlags := 1041 }

def heap : Heap := #[]
def classes : Array Class := #[k0, k1, k2, k3, k4, k5, k6, k7, k8, k9, k10, k11, k12, k13]
def interned : List (Array UInt16 × Addr) := []
def slotsUsed : Nat := 0
def theMethod : MethodId := ⟨1, 1⟩
def args0 : Array Value := #[.long 5, .long 3, .long 7, .int 1]
def aboutOver (below : List Frame) : State where
  vm := { classes := classes, interned := interned.toArray }
  heap := heap
  slotsUsed := slotsUsed
  threads := #[{ frames := .invoking theMethod args0 :: below }]
def below0 : List Frame := [.native { method := ⟨0, 0⟩, args := #[] }]
def about1 : State := aboutOver below0
def p0 : Program := .bare "" "" ""
def e0 : Env := launch0.env 0 0 0
theorem w_frames : about1.frames = Frame.invoking theMethod args0 :: below0 := rfl
set_option maxRecDepth 65536 in
theorem w_args : argsFit about1.vm theMethod args0 = true := by decide +kernel
set_option maxRecDepth 65536 in
theorem w_heap : heapFits about1 = true := by decide +kernel
set_option maxRecDepth 65536 in
theorem w_runnable : about1.curStatus? = some .runnable := by decide +kernel
set_option maxRecDepth 65536 in
theorem w_alone : about1.alone = true := by decide +kernel
set_option maxRecDepth 65536 in
theorem w_named : about1.methodNamed? x = some theMethod := by decide +kernel
set_option maxRecDepth 65536 in
theorem w_hears : about1.hears theMethod below0 = true := by decide +kernel
set_option maxRecDepth 65536 in
theorem w_ripe : about1.ripe theMethod args0 below0 = true := by decide +kernel
theorem w_running : about1.status = .running := rfl
set_option maxRecDepth 65536 in
theorem w_room : about1.hasRoom e0.platform room_1 = true :=
  launch0.hasRoom_least _ room_1 (by decide +kernel) (by decide +kernel) (by decide +kernel) (by decide +kernel) (by decide +kernel) (by decide +kernel)
theorem allAtoms_all (ts : List Jvm.Cond) (a : Array Jvm.Value) (st : Jvm.State) : (allAtoms ts).before a st = ts.all (fun c => c.before a st) := by
  induction ts with
  | nil => rfl
  | cons c t ih =>
    show (Jvm.Cond.and c (allAtoms t)).before a st = _
    rw [Jvm.Cond.before_and, ih, List.all_cons]
def words1 : List Jvm.Cond := Jvm.Cond.code x code maxLocals ret :: tables_1
/-- a 'code' word, met by the world's own term for the bytes: nothing is compared byte by byte -/
theorem code_word {y : MethodName} {bytes : ByteArray} {mx : Nat} {rt : Option FieldType} {a : Array Value} {s : State} {m : MethodId} {meth : Method} {c : Code} (h1 : s.methodNamed? y = some m) (h2 : s.vm.method? m = some meth) (h3 : meth.code = some c) (h4 : c.code = bytes)
    (h5 : (c.maxLocals == mx && c.exceptionTable.isEmpty && decide (c.maxStack ≤ mostOperands) && decide (meth.sig.returnType = rt) && !meth.locks && decide (parseMethodDescriptor y.desc = some meth.sig)) = true) : (Jvm.Cond.code y bytes mx rt).before a s = true := by
  simp only [Bool.and_eq_true, beq_iff_eq, Bool.not_eq_true', decide_eq_true_eq] at h5
  obtain ⟨⟨⟨⟨⟨g1, g2⟩, g3⟩, g4⟩, g5⟩, g6⟩ := h5
  simp [Cond.before, Cond.holds, Cond.value, h1, h2, h3, h4, g1, g2, g3, g4, g5, g6]
def isCode : Jvm.Cond → Bool
  | .code _ _ _ _ => true
  | _ => false
theorem all_split {L : List Jvm.Cond} {P : Jvm.Cond → Bool} (h1 : L.all (fun c => isCode c || P c) = true) (h2 : ∀ c ∈ L.filter isCode, P c = true) : L.all P = true := by
  refine List.all_eq_true.mpr fun c hc => ?_
  have h := List.all_eq_true.mp h1 c hc
  rcases Bool.eq_false_or_eq_true (isCode c) with hi | hi
  · exact h2 c (List.mem_filter.mpr ⟨hc, hi⟩)
  · simpa [hi] using h
set_option maxRecDepth 65536 in
theorem w_c0 : (Jvm.Cond.code x code maxLocals ret).before args0 about1 = true := code_word (m := ⟨1, 1⟩) (meth := k1m1) (c := k1c1) (by decide +kernel) rfl rfl rfl (by decide +kernel)
set_option maxRecDepth 65536 in
theorem w_c1 : (Jvm.Cond.code ({ cls := "com/example/tynemouth/tynemouth/control/ArrivalWindow", name := "<init>", desc := "()V" } : Jvm.MethodName) prog_21_method_1_code (1 : Nat) (Option.none : Option Jvm.ClassFile.FieldType)).before args0 about1 = true := code_word (m := ⟨2, 0⟩) (meth := k2m0) (c := k2c0) (by decide +kernel) rfl rfl rfl (by decide +kernel)
set_option maxRecDepth 65536 in
theorem w_c2 : (Jvm.Cond.code ({ cls := "java/lang/Object", name := "<init>", desc := "()V" } : Jvm.MethodName) object_method_1_code (1 : Nat) (Option.none : Option Jvm.ClassFile.FieldType)).before args0 about1 = true := code_word (m := ⟨0, 0⟩) (meth := k0m0) (c := k0c0) (by decide +kernel) rfl rfl rfl (by decide +kernel)
set_option maxRecDepth 65536 in
theorem w_c3 : (Jvm.Cond.code ({ cls := "com/example/tynemouth/tynemouth/control/ArrivalWindow", name := "add", desc := "(JJ)V" } : Jvm.MethodName) prog_21_method_2_code (6 : Nat) (Option.none : Option Jvm.ClassFile.FieldType)).before args0 about1 = true := code_word (m := ⟨2, 1⟩) (meth := k2m1) (c := k2c1) (by decide +kernel) rfl rfl rfl (by decide +kernel)
set_option maxRecDepth 65536 in
theorem w_c4 : (Jvm.Cond.code ({ cls := "java/lang/Math", name := "min", desc := "(JJ)J" } : Jvm.MethodName) jdk_29_method_70_code (4 : Nat) (Option.some Jvm.ClassFile.FieldType.long)).before args0 about1 = true := code_word (m := ⟨3, 1⟩) (meth := k3m1) (c := k3c1) (by decide +kernel) rfl rfl rfl (by decide +kernel)
set_option maxRecDepth 65536 in
theorem w_c5 : (Jvm.Cond.code ({ cls := "com/example/tynemouth/tynemouth/control/ArrivalWindow", name := "size", desc := "()I" } : Jvm.MethodName) prog_21_method_5_code (1 : Nat) (Option.some Jvm.ClassFile.FieldType.int)).before args0 about1 = true := code_word (m := ⟨2, 3⟩) (meth := k2m3) (c := k2c3) (by decide +kernel) rfl rfl rfl (by decide +kernel)
set_option maxRecDepth 65536 in
theorem w_c6 : (Jvm.Cond.code ({ cls := "com/example/tynemouth/tynemouth/control/ArrivalWindow", name := "admittedAfterOldest", desc := "()J" } : Jvm.MethodName) prog_21_method_7_code (1 : Nat) (Option.some Jvm.ClassFile.FieldType.long)).before args0 about1 = true := code_word (m := ⟨2, 4⟩) (meth := k2m4) (c := k2c4) (by decide +kernel) rfl rfl rfl (by decide +kernel)
set_option maxRecDepth 65536 in
theorem w_c7 : (Jvm.Cond.code ({ cls := "com/example/tynemouth/tynemouth/control/ArrivalWindow", name := "dropOldest", desc := "()V" } : Jvm.MethodName) prog_21_method_8_code (1 : Nat) (Option.none : Option Jvm.ClassFile.FieldType)).before args0 about1 = true := code_word (m := ⟨2, 5⟩) (meth := k2m5) (c := k2c5) (by decide +kernel) rfl rfl rfl (by decide +kernel)
set_option maxRecDepth 65536 in
theorem w_c8 : (Jvm.Cond.code ({ cls := "com/example/tynemouth/tynemouth/control/ArrivalWindow", name := "admitNewest", desc := "()V" } : Jvm.MethodName) prog_21_method_3_code (2 : Nat) (Option.none : Option Jvm.ClassFile.FieldType)).before args0 about1 = true := code_word (m := ⟨2, 2⟩) (meth := k2m2) (c := k2c2) (by decide +kernel) rfl rfl rfl (by decide +kernel)
def codes1 : List Jvm.Cond := [Jvm.Cond.code x code maxLocals ret, Jvm.Cond.code ({ cls := "com/example/tynemouth/tynemouth/control/ArrivalWindow", name := "<init>", desc := "()V" } : Jvm.MethodName) prog_21_method_1_code (1 : Nat) (Option.none : Option Jvm.ClassFile.FieldType), Jvm.Cond.code ({ cls := "java/lang/Object", name := "<init>", desc := "()V" } : Jvm.MethodName) object_method_1_code (1 : Nat) (Option.none : Option Jvm.ClassFile.FieldType), Jvm.Cond.code ({ cls := "com/example/tynemouth/tynemouth/control/ArrivalWindow", name := "add", desc := "(JJ)V" } : Jvm.MethodName) prog_21_method_2_code (6 : Nat) (Option.none : Option Jvm.ClassFile.FieldType), Jvm.Cond.code ({ cls := "java/lang/Math", name := "min", desc := "(JJ)J" } : Jvm.MethodName) jdk_29_method_70_code (4 : Nat) (Option.some Jvm.ClassFile.FieldType.long), Jvm.Cond.code ({ cls := "com/example/tynemouth/tynemouth/control/ArrivalWindow", name := "size", desc := "()I" } : Jvm.MethodName) prog_21_method_5_code (1 : Nat) (Option.some Jvm.ClassFile.FieldType.int), Jvm.Cond.code ({ cls := "com/example/tynemouth/tynemouth/control/ArrivalWindow", name := "admittedAfterOldest", desc := "()J" } : Jvm.MethodName) prog_21_method_7_code (1 : Nat) (Option.some Jvm.ClassFile.FieldType.long), Jvm.Cond.code ({ cls := "com/example/tynemouth/tynemouth/control/ArrivalWindow", name := "dropOldest", desc := "()V" } : Jvm.MethodName) prog_21_method_8_code (1 : Nat) (Option.none : Option Jvm.ClassFile.FieldType), Jvm.Cond.code ({ cls := "com/example/tynemouth/tynemouth/control/ArrivalWindow", name := "admitNewest", desc := "()V" } : Jvm.MethodName) prog_21_method_3_code (2 : Nat) (Option.none : Option Jvm.ClassFile.FieldType)]
set_option maxRecDepth 65536 in
theorem codes_eq : words1.filter isCode = codes1 := rfl
theorem w_codes : ∀ c ∈ words1.filter isCode, c.before args0 about1 = true := by
  rw [codes_eq]
  intro c hc
  simp only [codes1, List.mem_cons, List.not_mem_nil, or_false] at hc
  rcases hc with rfl | rfl | rfl | rfl | rfl | rfl | rfl | rfl | rfl
  · exact w_c0
  · exact w_c1
  · exact w_c2
  · exact w_c3
  · exact w_c4
  · exact w_c5
  · exact w_c6
  · exact w_c7
  · exact w_c8
set_option maxRecDepth 65536 in
theorem w_t1 : (words1.take 24).all (fun c => isCode c || c.before args0 about1) = true := by decide +kernel
set_option maxRecDepth 65536 in
theorem w_t2 : ((words1.drop 24).take 24).all (fun c => isCode c || c.before args0 about1) = true := by decide +kernel
set_option maxRecDepth 65536 in
theorem w_t3 : ((words1.drop 24).drop 24).all (fun c => isCode c || c.before args0 about1) = true := by decide +kernel
theorem w_tables : (allAtoms (Jvm.Cond.code x code maxLocals ret :: tables_1)).before args0 about1 = true := by
  rw [allAtoms_all]
  show words1.all (fun c => c.before args0 about1) = true
  refine all_split ?_ w_codes
  rw [← List.take_append_drop 24 words1, List.all_append, w_t1, ← List.take_append_drop 24 (words1.drop 24), List.all_append, w_t2, w_t3]
  rfl
set_option maxRecDepth 65536 in
theorem w_case : (Jvm.Cond.and given_1 narrow_1).before args0 about1 = true := by decide +kernel
theorem w_applies : (headSpec (Jvm.Cond.code x code maxLocals ret :: tables_1) room_1).applies x e0.platform about1 = true :=
  (Spec.applies_iff w_frames).mpr ⟨w_running, w_runnable, w_alone, w_named, w_hears, w_ripe, w_room, w_tables⟩
theorem atStart : AtStart classFile x code maxLocals ret World_1 tables_1 room_1 Calls_1 rest_1 Pre_1 launch0 p0 e0 about1 theMethod args0 below0 :=
  ⟨lists_1, trivial, launch0.admits_env _ _ _, launch0.least_env, fairChoices_fair.cas, fairChoices_fair.clock, w_frames, w_args, w_heap, w_applies, trivial, trivial, w_case⟩
end start1
theorem witness_1 : WitnessClaimed_1 := ⟨start1.p0, start1.e0, start1.about1, start1.theMethod, start1.args0, start1.below0, start1.atStart⟩
end Jvm.Pilot.@@N@@
