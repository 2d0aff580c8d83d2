import JvmDerived
import JvmDerived.Pilot.@@N@@Statement
import JvmDerived.Pilot.@@N@@Code
set_option linter.unusedVariables false
set_option linter.unusedSimpArgs false
set_option maxHeartbeats 2000000
namespace Jvm.Pilot.@@N@@
open Jvm Jvm.ClassFile Sem Op Lib Jvm.Free Jvm.Stand Jvm.LawKit Jvm.RoadKit Bundle Jvm.Pilot.@@N@@.Jvm.D
section OwnKit
variable {p : Program} {l : Launch} {e : Env} {R : Room} {s : State} {m : MethodId} {args : Array Value} {below : List Frame} {meth : Method} {c : Code} {T : State} {locs : List Loc} {cells slots : Nat} {Z : State} {h h' : Heap} {a b : Addr}
def OwnWp (p : Program) (e : Env) (below : List Frame) (s : State) (C S : Nat) (Q : Option Value → Heap → List Loc → Prop) (U : State) : Prop :=
  ∃ s₂ o, Steps p.tables e below U s₂ ∧ s₂.status = .running ∧ Ended s₂ below o ∧ ∃ v L, o = .returned v ∧ Q v s₂.heap L ∧ FrameEnd s o s₂ L C S
variable {C S : Nat} {Q : Option Value → Heap → List Loc → Prop}
theorem OwnWp.step {U U' : State} (hs : ∀ t, Steps p.tables e below U' t → Steps p.tables e below U t) (k : OwnWp p e below s C S Q U') : OwnWp p e below s C S Q U := by
  obtain ⟨s2, o, h1, r⟩ := k
  exact ⟨s2, o, hs _ h1, r⟩
theorem OwnWp.go {U U' : State} (hs : Steps p.tables e below U U') (k : OwnWp p e below s C S Q U') : OwnWp p e below s C S Q U := k.step fun _ q => hs.trans q
theorem OwnWp.cast {g g' : JFrame} (q : g = g') (k : OwnWp p e below s C S Q (T.setTop g')) : OwnWp p e below s C S Q (T.setTop g) := q ▸ k
theorem OwnWp.retI (X : Stand p l e R s m args below meth c T locs cells slots) (hx : p.tables.exec = Jvm.exec) (hlk : meth.locks = false) (hret : meth.sig.returnType = some .int) {pc : Nat} {Ls : Array Slot} {z : Int32} {rest : List Value} (hd : decode c.code pc = .ok (.ireturn, 1)) (hC : cells ≤ C) (hS : slots ≤ S) (hQ : Q (some (.int z)) T.heap locs) :
    OwnWp p e below s C S Q (T.setTop (mkF m pc Ls (.int z :: rest))) := by
  obtain ⟨fs, hr, hrun, hended, hW, hsame⟩ := X.leave (v := some (.int z)) (fun h => by rw [hret] at h; cases h) hlk
  exact ⟨_, _, retOut X hx hret rfl (Or.inl ⟨rfl, Or.inl rfl, z, rfl⟩) hd hr, hrun, hended, _, _, rfl, hQ, ⟨_, rfl⟩, hW, hsame.mono hC hS⟩
theorem OwnWp.retJ (X : Stand p l e R s m args below meth c T locs cells slots) (hx : p.tables.exec = Jvm.exec) (hlk : meth.locks = false) (hret : meth.sig.returnType = some .long) {pc : Nat} {Ls : Array Slot} {z : Int64} {rest : List Value} (hd : decode c.code pc = .ok (.lreturn, 1)) (hC : cells ≤ C) (hS : slots ≤ S) (hQ : Q (some (.long z)) T.heap locs) :
    OwnWp p e below s C S Q (T.setTop (mkF m pc Ls (.long z :: rest))) := by
  obtain ⟨fs, hr, hrun, hended, hW, hsame⟩ := X.leave (v := some (.long z)) (fun h => by rw [hret] at h; cases h) hlk
  exact ⟨_, _, retOut X hx hret rfl (Or.inr (Or.inl ⟨rfl, rfl, z, rfl⟩)) hd hr, hrun, hended, _, _, rfl, hQ, ⟨_, rfl⟩, hW, hsame.mono hC hS⟩
theorem OwnWp.retA (X : Stand p l e R s m args below meth c T locs cells slots) (hx : p.tables.exec = Jvm.exec) (hlk : meth.locks = false) {t : FieldType} (hret : meth.sig.returnType = some t) (ht : t.isReference = true) {pc : Nat} {Ls : Array Slot} {z : Addr} {rest : List Value} (hn : narrow t (.ref z) = .ref z) (hd : decode c.code pc = .ok (.areturn, 1)) (hC : cells ≤ C) (hS : slots ≤ S) (hQ : Q (some (.ref z)) T.heap locs) :
    OwnWp p e below s C S Q (T.setTop (mkF m pc Ls (.ref z :: rest))) := by
  obtain ⟨fs, hr, hrun, hended, hW, hsame⟩ := X.leave (v := some (.ref z)) (fun h => by rw [hret] at h; cases h) hlk
  exact ⟨_, _, retOut X hx hret hn (Or.inr (Or.inr (Or.inr (Or.inr ⟨rfl, ht, rfl⟩)))) hd hr, hrun, hended, _, _, rfl, hQ, ⟨_, rfl⟩, hW, hsame.mono hC hS⟩
theorem OwnWp.retZ (X : Stand p l e R s m args below meth c T locs cells slots) (hx : p.tables.exec = Jvm.exec) (hlk : meth.locks = false) (hret : meth.sig.returnType = some .boolean) {pc : Nat} {Ls : Array Slot} {z : Int32} {rest : List Value} (hd : decode c.code pc = .ok (.ireturn, 1)) (hC : cells ≤ C) (hS : slots ≤ S) (hz : z = 0 ∨ z = 1) (hQ : Q (some (.int z)) T.heap locs) :
    OwnWp p e below s C S Q (T.setTop (mkF m pc Ls (.int z :: rest))) := by
  have hn : nar .boolean z = z := by rcases hz with rfl | rfl <;> rfl
  obtain ⟨fs, hr, hrun, hended, hW, hsame⟩ := X.leave (v := some (.int (nar .boolean z))) (fun h => by rw [hret] at h; cases h) hlk
  exact ⟨_, _, retN X hx hret (Or.inl rfl) hd hr, hrun, hended, _, _, rfl, by rw [hn]; exact hQ, ⟨_, rfl⟩, hW, hsame.mono hC hS⟩
theorem OwnWp.retV (X : Stand p l e R s m args below meth c T locs cells slots) (hx : p.tables.exec = Jvm.exec) (hlk : meth.locks = false) (hret : meth.sig.returnType = none) {pc : Nat} {Ls : Array Slot} (hd : decode c.code pc = .ok (.return_, 1)) (hC : cells ≤ C) (hS : slots ≤ S) (hQ : Q none T.heap locs) :
    OwnWp p e below s C S Q (T.setTop (mkF m pc Ls [])) := by
  obtain ⟨fs, hr, hrun, hended, hW, hsame⟩ := X.leave (v := none) (fun _ => rfl) hlk
  exact ⟨_, _, X.returnOut hx hret hd hr, hrun, hended, _, _, rfl, hQ, ⟨_, rfl⟩, hW, hsame.mono hC hS⟩
theorem own_widen {cells' slots' : Nat} (X : Stand p l e R s m args below meth c T locs cells slots) (h1 : cells ≤ cells') (h2 : slots ≤ slots') : Stand p l e R s m args below meth c T locs cells' slots' := { X with same := X.same.mono h1 h2 }
theorem own_lrem {g : JFrame} {target : State} (X : Stand p l e R s m args below meth c T locs cells slots) (hx : p.tables.exec = Jvm.exec) (hg : g.method = m) {x y : Int64} {rest : List Value} (hd : decode c.code g.pc = .ok (.lrem, 1)) (hs : g.stack = .long y :: .long x :: rest) (hy : y ≠ 0)
    (hr : Steps p.tables e below (T.setTop { g with pc := g.pc + 1, stack := .long (x % y) :: rest }) target) : Steps p.tables e below (T.setTop g) target :=
  XT.lrem X.here hx hg hd hs hy (by rw [lrem_mod]; exact hr)
/-- an array: its kind, its length, what place i holds -/
def OwnA (Z : State) (h : Heap) (a : Addr) (ty : FieldType) (n : Int32) (f : Int → Value) : Prop :=
  ∃ cl : Cell, Arr Z h a cl ty ∧ (cl.slots.size : Int) = n.toInt ∧ ∀ i : Int, 0 ≤ i → i < n.toInt → cl.slots[i.toNat]? = some (f i)
def ownUpd {α : Type} (f : Int → α) (j : Int) (x : α) : Int → α := fun i => if i = j then x else f i
theorem ownUpd_same {α : Type} (f : Int → α) (j : Int) (x : α) : ownUpd f j x j = x := if_pos rfl
theorem ownUpd_ne {α : Type} (f : Int → α) (j : Int) (x : α) {i : Int} (q : i ≠ j) : ownUpd f j x i = f i := if_neg q
variable {ty : FieldType} {n : Int32} {f : Int → Value} {ws : List Addr}
theorem OwnA.lt (F : OwnA Z h a ty n f) : a < h.size := by obtain ⟨_, A, -⟩ := F; exact A.lt
theorem OwnA.ext (F : OwnA Z h a ty n f) (E : Ext h h') : OwnA Z h' a ty n f := by obtain ⟨cl, A, r⟩ := F; exact ⟨cl, A.ext E, r⟩
theorem OwnA.keep (F : OwnA Z h a ty n f) (K : Keep h h' ws) (q : a ∉ ws) : OwnA Z h' a ty n f := by obtain ⟨cl, A, r⟩ := F; exact ⟨cl, ⟨K.2.1 a cl A.1 q, A.2⟩, r⟩
theorem OwnA.other {sl : Nat} {v : Value} (F : OwnA Z h b ty n f) (W : Wr h h' a sl v) (q : b ≠ a) : OwnA Z h' b ty n f := by obtain ⟨cl, A, r⟩ := F; exact ⟨cl, A.other W q, r⟩
theorem OwnA.len (F : OwnA Z h a ty n f) : 0 ≤ n.toInt := by obtain ⟨cl, _, r, _⟩ := F; omega
theorem OwnA.congr {f' : Int → Value} (F : OwnA Z h a ty n f) (q : ∀ i, 0 ≤ i → i < n.toInt → f i = f' i) : OwnA Z h a ty n f' := by obtain ⟨cl, A, r1, r2⟩ := F; exact ⟨cl, A, r1, fun i h1 h2 => by rw [← q i h1 h2]; exact r2 i h1 h2⟩
theorem own_clamp (j : Int32) : j.toNatClampNeg = j.toInt.toNat := rfl
theorem own_in {cl : Cell} {j : Int32} (r : (cl.slots.size : Int) = n.toInt) (h1 : 0 ≤ j.toInt) (h2 : j.toInt < n.toInt) : ¬ (j < 0 ∨ cl.slots.size ≤ j.toNatClampNeg) := by
  rw [own_clamp, Int32.lt_iff_toInt_lt, Int32.toInt_zero]; omega
theorem OwnA.new {k : ClassId} {z : Int32} (A : Arr Z h a (newA k ty z) ty) (q : 0 ≤ z.toInt) : OwnA Z h a ty z (fun _ => defaultValue ty) := by
  refine ⟨_, A, ?_, fun i h1 h2 => ?_⟩
  · rw [sz_new, own_clamp]; omega
  · have hi : i.toNat < z.toNatClampNeg := by rw [own_clamp]; omega
    show (Array.replicate z.toNatClampNeg (defaultValue ty))[i.toNat]? = _
    rw [Array.getElem?_replicate, if_pos hi]
theorem OwnA.set {j : Int32} {v : Value} (F : OwnA Z h a ty n f) (h1 : 0 ≤ j.toInt) (h2 : j.toInt < n.toInt) (W : Wr h h' a j.toNatClampNeg v) : OwnA Z h' a ty n (ownUpd f j.toInt v) := by
  obtain ⟨cl, A, r1, r2⟩ := F
  refine ⟨_, A.same W, by rw [sz_set]; exact r1, fun i g1 g2 => ?_⟩
  by_cases q : i = j.toInt
  · subst q
    rw [ownUpd_same]
    have hi : j.toNatClampNeg < cl.slots.size := by rw [own_clamp]; omega
    exact Array.getElem?_setIfInBounds_self_of_lt hi
  · rw [ownUpd_ne _ _ _ q, ← r2 i g1 g2, own_clamp]
    exact Array.getElem?_setIfInBounds_ne (by omega)
variable {g : JFrame} {target : State} {rest : List Value} {j : Int32}
theorem OwnA.alen (X : Stand p l e R s m args below meth c T locs cells slots) (hx : p.tables.exec = Jvm.exec) (hZ : Z.Warmed39 s.vm) (eT : T.heap = h) (F : OwnA Z h a ty n f) (hg : g.method = m) (hs : g.stack = .ref a :: rest) (hd : decode c.code g.pc = .ok (.arraylength, 1))
    (hr : Steps p.tables e below (T.setTop { g with pc := g.pc + 1, stack := .int n :: rest }) target) : Steps p.tables e below (T.setTop g) target := by
  obtain ⟨cl, A, r1, r2⟩ := F
  subst eT
  refine X.arraylength hx A.1 (State.isArrayOf_alike hZ.alike A.2.1) hg hs hd target ?_
  have q : cl.slots.size.toInt32 = n := by
    have q0 : cl.slots.size = n.toNatClampNeg := by rw [own_clamp]; omega
    exact len_of q0 (by rw [Int32.lt_iff_toInt_lt, Int32.toInt_zero]; omega)
  rw [q]; exact hr
theorem OwnA.ldI (X : Stand p l e R s m args below meth c T locs cells slots) (hx : p.tables.exec = Jvm.exec) (hZ : Z.Warmed39 s.vm) (eT : T.heap = h) (F : OwnA Z h a .int n f) (h1 : 0 ≤ j.toInt) (h2 : j.toInt < n.toInt) (hg : g.method = m) (hs : g.stack = .int j :: .ref a :: rest) (hd : decode c.code g.pc = .ok (.iaload, 1))
    (hr : Steps p.tables e below (T.setTop { g with pc := g.pc + 1, stack := f j.toInt :: rest }) target) : Steps p.tables e below (T.setTop g) target := by
  obtain ⟨cl, A, r1, r2⟩ := F
  subst eT
  exact X.iaload hx A.1 (State.isArrayOf_alike hZ.alike A.2.1) A.2.2 (own_in r1 h1 h2) (r2 _ h1 h2) hg hs hd target hr
theorem OwnA.ldJ (X : Stand p l e R s m args below meth c T locs cells slots) (hx : p.tables.exec = Jvm.exec) (hZ : Z.Warmed39 s.vm) (eT : T.heap = h) (F : OwnA Z h a .long n f) (h1 : 0 ≤ j.toInt) (h2 : j.toInt < n.toInt) (hg : g.method = m) (hs : g.stack = .int j :: .ref a :: rest) (hd : decode c.code g.pc = .ok (.laload, 1))
    (hr : Steps p.tables e below (T.setTop { g with pc := g.pc + 1, stack := f j.toInt :: rest }) target) : Steps p.tables e below (T.setTop g) target := by
  obtain ⟨cl, A, r1, r2⟩ := F
  subst eT
  exact X.laload hx A.1 (State.isArrayOf_alike hZ.alike A.2.1) A.2.2 (own_in r1 h1 h2) (r2 _ h1 h2) hg hs hd target hr
theorem OwnA.ldC (X : Stand p l e R s m args below meth c T locs cells slots) (hx : p.tables.exec = Jvm.exec) (hZ : Z.Warmed39 s.vm) (eT : T.heap = h) (F : OwnA Z h a .char n f) (h1 : 0 ≤ j.toInt) (h2 : j.toInt < n.toInt) (hg : g.method = m) (hs : g.stack = .int j :: .ref a :: rest) (hd : decode c.code g.pc = .ok (.caload, 1))
    (hr : Steps p.tables e below (T.setTop { g with pc := g.pc + 1, stack := f j.toInt :: rest }) target) : Steps p.tables e below (T.setTop g) target := by
  obtain ⟨cl, A, r1, r2⟩ := F
  subst eT
  exact X.caload hx A.1 (State.isArrayOf_alike hZ.alike A.2.1) A.2.2 (own_in r1 h1 h2) (r2 _ h1 h2) hg hs hd target hr
theorem OwnA.ldB (X : Stand p l e R s m args below meth c T locs cells slots) (hx : p.tables.exec = Jvm.exec) (hZ : Z.Warmed39 s.vm) (eT : T.heap = h) (F : OwnA Z h a .byte n f) (h1 : 0 ≤ j.toInt) (h2 : j.toInt < n.toInt) (hg : g.method = m) (hs : g.stack = .int j :: .ref a :: rest) (hd : decode c.code g.pc = .ok (.baload, 1))
    (hr : Steps p.tables e below (T.setTop { g with pc := g.pc + 1, stack := f j.toInt :: rest }) target) : Steps p.tables e below (T.setTop g) target := by
  obtain ⟨cl, A, r1, r2⟩ := F
  subst eT
  exact X.baloadBytes hx A.1 (State.isArrayOf_alike hZ.alike A.2.1) A.2.2 (own_in r1 h1 h2) (r2 _ h1 h2) hg hs hd target hr
theorem OwnA.ldZ (X : Stand p l e R s m args below meth c T locs cells slots) (hx : p.tables.exec = Jvm.exec) (hZ : Z.Warmed39 s.vm) (eT : T.heap = h) (F : OwnA Z h a .boolean n f) (h1 : 0 ≤ j.toInt) (h2 : j.toInt < n.toInt) (hg : g.method = m) (hs : g.stack = .int j :: .ref a :: rest) (hd : decode c.code g.pc = .ok (.baload, 1))
    (hr : Steps p.tables e below (T.setTop { g with pc := g.pc + 1, stack := f j.toInt :: rest }) target) : Steps p.tables e below (T.setTop g) target := by
  obtain ⟨cl, A, r1, r2⟩ := F
  subst eT
  exact X.baloadBooleans hx A.1 (State.isArrayOf_alike hZ.alike A.2.1) A.2.2 (own_in r1 h1 h2) (r2 _ h1 h2) hg hs hd target hr
theorem own_frs {k : Nat} {sl : Nat} (N : Fr k locs) (q : k ≤ a) : Fr k (locs ++ [⟨a, sl⟩]) := N.app fun y hy => by cases List.mem_singleton.mp hy; exact q
theorem OwnA.stI {n0 : Nat} {x : Int32} (X : Stand p l e R s m args below meth c T locs cells slots) (hx : p.tables.exec = Jvm.exec) (hZ : Z.Warmed39 s.vm) (eT : T.heap = h) (N : Fr n0 locs) (q : n0 ≤ a) (F : OwnA Z h a .int n f) (h1 : 0 ≤ j.toInt) (h2 : j.toInt < n.toInt) (hg : g.method = m) (hs : g.stack = .int x :: .int j :: .ref a :: rest) (hd : decode c.code g.pc = .ok (.iastore, 1)) :
    ∃ T' h' L', Stand p l e R s m args below meth c T' L' cells slots ∧ T'.heap = h' ∧ Fr n0 L' ∧ Keep h h' [a] ∧ OwnA Z h' a .int n (ownUpd f j.toInt (.int x)) ∧ ∀ target, Steps p.tables e below (T'.setTop { g with pc := g.pc + 1, stack := rest }) target → Steps p.tables e below (T.setTop g) target := by
  obtain ⟨cl, A, r1, r2⟩ := id F
  obtain ⟨T', h', X', e', W, st⟩ := RoadKit.stI X hx hZ eT A (own_in r1 h1 h2) hg hs hd
  exact ⟨T', h', _, X', e', own_frs N q, Keep.of_wr W, F.set h1 h2 W, st⟩
theorem OwnA.stJ {n0 : Nat} {x : Int64} (X : Stand p l e R s m args below meth c T locs cells slots) (hx : p.tables.exec = Jvm.exec) (hZ : Z.Warmed39 s.vm) (eT : T.heap = h) (N : Fr n0 locs) (q : n0 ≤ a) (F : OwnA Z h a .long n f) (h1 : 0 ≤ j.toInt) (h2 : j.toInt < n.toInt) (hg : g.method = m) (hs : g.stack = .long x :: .int j :: .ref a :: rest) (hd : decode c.code g.pc = .ok (.lastore, 1)) :
    ∃ T' h' L', Stand p l e R s m args below meth c T' L' cells slots ∧ T'.heap = h' ∧ Fr n0 L' ∧ Keep h h' [a] ∧ OwnA Z h' a .long n (ownUpd f j.toInt (.long x)) ∧ ∀ target, Steps p.tables e below (T'.setTop { g with pc := g.pc + 1, stack := rest }) target → Steps p.tables e below (T.setTop g) target := by
  obtain ⟨cl, A, r1, r2⟩ := id F
  obtain ⟨T', h', X', e', W, st⟩ := RoadKit.stJ X hx hZ eT A (own_in r1 h1 h2) hg hs hd
  exact ⟨T', h', _, X', e', own_frs N q, Keep.of_wr W, F.set h1 h2 W, st⟩
theorem OwnA.stC {n0 : Nat} {x : Int32} (X : Stand p l e R s m args below meth c T locs cells slots) (hx : p.tables.exec = Jvm.exec) (hZ : Z.Warmed39 s.vm) (eT : T.heap = h) (N : Fr n0 locs) (q : n0 ≤ a) (F : OwnA Z h a .char n f) (h1 : 0 ≤ j.toInt) (h2 : j.toInt < n.toInt) (hg : g.method = m) (hs : g.stack = .int x :: .int j :: .ref a :: rest) (hd : decode c.code g.pc = .ok (.castore, 1)) :
    ∃ T' h' L', Stand p l e R s m args below meth c T' L' cells slots ∧ T'.heap = h' ∧ Fr n0 L' ∧ Keep h h' [a] ∧ OwnA Z h' a .char n (ownUpd f j.toInt (.int (nar .char x))) ∧ ∀ target, Steps p.tables e below (T'.setTop { g with pc := g.pc + 1, stack := rest }) target → Steps p.tables e below (T.setTop g) target := by
  obtain ⟨cl, A, r1, r2⟩ := id F
  obtain ⟨T', h', X', e', W, st⟩ := RoadKit.stC X hx hZ eT A (own_in r1 h1 h2) hg hs hd
  exact ⟨T', h', _, X', e', own_frs N q, Keep.of_wr W, F.set h1 h2 W, st⟩
theorem OwnA.stB {n0 : Nat} {x : Int32} (X : Stand p l e R s m args below meth c T locs cells slots) (hx : p.tables.exec = Jvm.exec) (hZ : Z.Warmed39 s.vm) (eT : T.heap = h) (N : Fr n0 locs) (q : n0 ≤ a) (F : OwnA Z h a .byte n f) (h1 : 0 ≤ j.toInt) (h2 : j.toInt < n.toInt) (hg : g.method = m) (hs : g.stack = .int x :: .int j :: .ref a :: rest) (hd : decode c.code g.pc = .ok (.bastore, 1)) :
    ∃ T' h' L', Stand p l e R s m args below meth c T' L' cells slots ∧ T'.heap = h' ∧ Fr n0 L' ∧ Keep h h' [a] ∧ OwnA Z h' a .byte n (ownUpd f j.toInt (.int (nar .byte x))) ∧ ∀ target, Steps p.tables e below (T'.setTop { g with pc := g.pc + 1, stack := rest }) target → Steps p.tables e below (T.setTop g) target := by
  obtain ⟨cl, A, r1, r2⟩ := id F
  obtain ⟨T', h', X', e', W, st⟩ := RoadKit.stB X hx hZ eT A (own_in r1 h1 h2) hg hs hd
  exact ⟨T', h', _, X', e', own_frs N q, Keep.of_wr W, F.set h1 h2 W, st⟩
theorem OwnA.stZ {n0 : Nat} {x : Int32} (X : Stand p l e R s m args below meth c T locs cells slots) (hx : p.tables.exec = Jvm.exec) (hZ : Z.Warmed39 s.vm) (eT : T.heap = h) (N : Fr n0 locs) (q : n0 ≤ a) (F : OwnA Z h a .boolean n f) (h1 : 0 ≤ j.toInt) (h2 : j.toInt < n.toInt) (hg : g.method = m) (hs : g.stack = .int x :: .int j :: .ref a :: rest) (hd : decode c.code g.pc = .ok (.bastore, 1)) :
    ∃ T' h' L', Stand p l e R s m args below meth c T' L' cells slots ∧ T'.heap = h' ∧ Fr n0 L' ∧ Keep h h' [a] ∧ OwnA Z h' a .boolean n (ownUpd f j.toInt (.int (nar .boolean x))) ∧ ∀ target, Steps p.tables e below (T'.setTop { g with pc := g.pc + 1, stack := rest }) target → Steps p.tables e below (T.setTop g) target := by
  obtain ⟨cl, A, r1, r2⟩ := id F
  obtain ⟨T', h', X', e', W, st⟩ := RoadKit.stZ X hx hZ eT A (own_in r1 h1 h2) hg hs hd
  exact ⟨T', h', _, X', e', own_frs N q, Keep.of_wr W, F.set h1 h2 W, st⟩
end OwnKit
theorem own_ofi {n : Int} (h1 : -2147483648 ≤ n) (h2 : n < 2147483648) : (Int32.ofInt n).toInt = n := by
  rw [Int32.toInt_ofInt, show Int32.size = 4294967296 from rfl, Int.bmod_eq_of_le (by omega) (by omega)]
theorem own_ofj {n : Int} (h1 : -9223372036854775808 ≤ n) (h2 : n < 9223372036854775808) : (Int64.ofInt n).toInt = n := by
  rw [Int64.toInt_ofInt, show Int64.size = 18446744073709551616 from rfl, Int.bmod_eq_of_le (by omega) (by omega)]
/-- an int between 0 and n is one of finitely many -/
theorem own_fin {x : Int32} {n : Nat} (h1 : 0 ≤ x.toInt) (h2 : x.toInt < n) : ∃ k : Fin n, x = Int32.ofInt (k.1 : Int) := by
  have h3 := x.toInt_lt
  refine ⟨⟨x.toInt.toNat, by omega⟩, Int32.toInt_inj.mp ?_⟩
  show _ = (Int32.ofInt ((x.toInt.toNat : Nat) : Int)).toInt
  rw [own_ofi (by omega) (by omega)]; omega
def own_adm (f : Int → Int64) (j : Int) (t : Int64) : Int → Int64 := if f j < t then ownUpd f j (f j + 1) else f
theorem own_adm_same (f : Int → Int64) (j : Int) (t : Int64) : own_adm f j t j = if f j < t then f j + 1 else f j := by
  unfold own_adm; split
  · rw [ownUpd_same]
  · rfl
theorem own_adm_ne (f : Int → Int64) (j : Int) (t : Int64) {i : Int} (q : i ≠ j) : own_adm f j t i = f i := by
  unfold own_adm; split
  · rw [ownUpd_ne _ _ _ q]
  · rfl
theorem own_one (x : Int32) : x &&& 1 = 0 ∨ x &&& 1 = 1 := by
  have e := c_mask x 1 1 (by decide) (by decide)
  have h : (x &&& 1).toInt = 0 ∨ (x &&& 1).toInt = 1 := by omega
  rcases h with h | h
  · exact Or.inl (Int32.toInt_inj.mp h)
  · exact Or.inr (Int32.toInt_inj.mp h)
theorem own_types (p t o : Int32) (qt : t = (1 : Int32) + (p &&& (1 : Int32))) (qo : o = (3 : Int32) - t) :
    (0 ≤ (t - (1 : Int32)).toInt ∧ (t - (1 : Int32)).toInt < (2 : Int32).toInt) ∧ (0 ≤ (o - (1 : Int32)).toInt ∧ (o - (1 : Int32)).toInt < (2 : Int32).toInt) ∧ (t - (1 : Int32)).toInt ≠ (o - (1 : Int32)).toInt := by
  rcases own_one p with h | h <;> rw [h] at qt <;> subst qt <;> subst qo <;> decide
theorem own_maxlt (c : Int64) (h1 : 0 ≤ c.toInt) (h2 : c.toInt ≤ 1000) : c < (9223372036854775807 : Int64) := by
  rw [Int64.lt_iff_toInt_lt, show (9223372036854775807 : Int64).toInt = 9223372036854775807 from rfl]; omega
theorem own_inc (c : Int64) (h1 : 0 ≤ c.toInt) (h2 : c.toInt ≤ 1000) : (c + 1).toInt = c.toInt + 1 := by
  have a := c_ladd c 1
  rw [show (1 : Int64).toInt = 1 from rfl] at a
  have b := rng64 (c + 1)
  omega
theorem own_step (f : Int → Int64) (c : Int64) (ti oi : Int) (k : Int32) (cc : Int64) (m m' : Int) (hm : m < 1000) (hm' : m' = m + 1) (hc : 0 ≤ c.toInt ∧ c.toInt ≤ m) (hx : f ti = c) (hy : f oi = 0) (hne : ti ≠ oi)
    (qk : k = ((1 : Int32) &&& (if f ti < (9223372036854775807 : Int64) then (1 : Int32) else (0 : Int32)))) (qc : cc = c + (1 : Int64)) : k = 1 ∧ (0 ≤ cc.toInt ∧ cc.toInt ≤ m') ∧ own_adm f ti (9223372036854775807 : Int64) ti = cc ∧ own_adm f ti (9223372036854775807 : Int64) oi = 0 := by
  have h1 : f ti < (9223372036854775807 : Int64) := by rw [hx]; exact own_maxlt c hc.1 (by omega)
  have h2 := own_inc c hc.1 (by omega)
  rw [if_pos h1] at qk
  refine ⟨by rw [qk]; rfl, by rw [qc]; omega, ?_, ?_⟩
  · rw [own_adm_same, if_pos h1, hx, qc]
  · rw [own_adm_ne _ _ _ (Ne.symm hne), hy]
theorem own_stepD (f : Int → Int64) (c : Int64) (ti oi : Int) (k : Int32) (cc : Int64) (hx : f ti = c) (hy : f oi = 0) (hne : ti ≠ oi)
    (qk : k = ((1 : Int32) &&& (if f oi < (9223372036854775807 : Int64) then (1 : Int32) else (0 : Int32)))) (qc : cc = (0 : Int64) + (1 : Int64)) : k = 1 ∧ (0 ≤ cc.toInt ∧ cc.toInt ≤ 1) ∧ own_adm f oi (9223372036854775807 : Int64) oi = cc ∧ own_adm f oi (9223372036854775807 : Int64) ti = c := by
  have h1 : f oi < (9223372036854775807 : Int64) := by rw [hy]; decide
  rw [if_pos h1] at qk
  refine ⟨by rw [qk]; rfl, by rw [qc]; decide, ?_, ?_⟩
  · rw [own_adm_same, if_pos h1, hy, qc]
  · rw [own_adm_ne _ _ _ hne, hx]
theorem own_lirr (c : Int64) : ¬ c < c := by rw [Int64.lt_iff_toInt_lt]; omega
theorem own_llt (c : Int64) (h1 : 0 ≤ c.toInt) (h2 : c.toInt ≤ 1000) : c < c + (1 : Int64) := by
  rw [Int64.lt_iff_toInt_lt, own_inc c h1 h2]; omega

theorem d1_0 : decode prog_26_method_1_code 0 = .ok (.aload_n 0, 1) := by decide +kernel
theorem d1_1 : decode prog_26_method_1_code 1 = .ok (.invokespecial 1, 3) := by decide +kernel
theorem d1_4 : decode prog_26_method_1_code 4 = .ok (.aload_n 0, 1) := by decide +kernel
theorem d1_5 : decode prog_26_method_1_code 5 = .ok (.iload_n 1, 1) := by decide +kernel
theorem d1_6 : decode prog_26_method_1_code 6 = .ok (.newarray .long, 2) := by decide +kernel
theorem d1_8 : decode prog_26_method_1_code 8 = .ok (.putfield 7, 3) := by decide +kernel
theorem d1_11 : decode prog_26_method_1_code 11 = .ok (.return_, 1) := by decide +kernel
theorem pn_1 : plainFor (⟨"com/example/tynemouth/tynemouth/control/PoolOccupancy", "<init>", "(I)V"⟩ : MethodName) = true := plainFor_of_name (by first | (simp [plainName, overriddenIn]; done) | decide +kernel)
theorem pd_1 : parseMethodDescriptor "(I)V" = some ⟨[.int], none⟩ := by decide +kernel
theorem ef_1 (m : MethodId) (x0 : Addr) (x1 : Int32) : entryFrame m #[(.ref x0), (.int x1)] 2 = mkF m 0 #[.val (.ref x0), .val (.int x1)] [] := by first | (simp [entryFrame, mkF, argsToLocals, Value.category, maxLocals]; done) | rfl
def Q1 (Z : State) (a1 : Addr) (p1 : Int32)  (h0 : Heap) (n0 : Nat) (v : Option Value) (h : Heap) (L : List Loc) : Prop := v = none ∧ Fr n0 L ∧ Keep h0 h [a1] ∧ ∃ b : Addr, n0 ≤ b ∧ a1 ≠ b ∧ Fld Z h a1 "com/example/tynemouth/tynemouth/control/PoolOccupancy" "present" "[J" (.ref b) ∧ OwnA Z h b .long p1 (fun _ => .long 0)
set_option maxRecDepth 65536 in
set_option maxHeartbeats 40000000 in
theorem rm1 (l : Launch) (Z : State) (a0 : Array Value) (hw : ∀ d ∈ tables_1, d.before a0 Z = true) (ws : List Jvm.Cond) (a1 : Addr) (p1 : Int32)  (h0 : Heap) (n0 : Nat) (Z0 : n0 ≤ h0.size) (g0 : n0 ≤ a1) (E0 : Exa Z h0 a1 "com/example/tynemouth/tynemouth/control/PoolOccupancy") (F0 : Fld Z h0 a1 "com/example/tynemouth/tynemouth/control/PoolOccupancy" "present" "[J" .null) (h1 : ¬ p1 < 0) (h2 : p1.toNatClampNeg ≤ 2) (h3 : 0 ≤ p1.toInt) :
    MetFree l (⟨"com/example/tynemouth/tynemouth/control/PoolOccupancy", "<init>", "(I)V"⟩ : MethodName) (head1 (Jvm.Cond.code (⟨"com/example/tynemouth/tynemouth/control/PoolOccupancy", "<init>", "(I)V"⟩ : MethodName) prog_26_method_1_code 2 none :: ws) ({ frames := 1, cells := 1, slots := 2, locals := 12 } : Room)) (fun a U => a = #[(.ref a1), (.int p1)] ∧ Z.Warmed39 U.vm ∧ U.heap = h0) (fun _ _ _ _ _ => True) (fun _ U o U' => ∃ v L, o = .returned v ∧ Q1 Z a1 p1  h0 n0 v U'.heap L ∧ FrameEnd U o U' L ({ frames := 1, cells := 1, slots := 2, locals := 12 } : Room).cells ({ frames := 1, cells := 1, slots := 2, locals := 12 } : Room).slots) := by
  refine MetFree.of_bodySF pn_1 hisR ?_
  intro p e s m args below meth c s₁ Bd hml0 hP hK
  obtain ⟨rfl, hZ, hh⟩ := hP
  have hx := Bd.exec
  have hby := Bd.bytes
  have hlk := BodyLoose.notSynchronized Bd
  have hml : c.maxLocals = 2 := hml0
  have hown : s.vm.findClass "com/example/tynemouth/tynemouth/control/PoolOccupancy" = some m.cls := findClass_of_methodNamed Bd.named
  have hnm := (name_of_methodNamed Bd.named Bd.method).1
  have X0 : Stand p l e ({ frames := 1, cells := 1, slots := 2, locals := 12 } : Room) s m #[(.ref a1), (.int p1)] below meth c s₁ [] 0 0 := Stand.of_body Bd
  have e0 : s₁.heap = h0 := by rw [← hh, Bd.state]; rfl
  have N0 := Fr.nil n0
  show OwnWp p e below s ({ frames := 1, cells := 1, slots := 2, locals := 12 } : Room).cells ({ frames := 1, cells := 1, slots := 2, locals := 12 } : Room).slots (Q1 Z a1 p1  h0 n0) (s₁.setTop (entryFrame m #[(.ref a1), (.int p1)] 2))
  refine OwnWp.cast (ef_1 m a1 p1) ?_
  show OwnWp p e below s _ _ _ (s₁.setTop (mkF m 0 #[.val (.ref a1), .val (.int p1)] []))
  have K0 := Keep.refl h0 [a1]
  refine OwnWp.step (U' := s₁.setTop (mkF m 1 #[.val (.ref a1), .val (.int p1)] [(.ref a1)])) (fun t k => ?_) ?_
  · show Steps p.tables e below (s₁.setTop (mkF m 0 #[.val (.ref a1), .val (.int p1)] [])) _
    refine XS.aloadN X0.here hx rfl (hb hby d1_0) rfl rfl ?_
    show Steps p.tables e below (s₁.setTop (mkF m 1 #[.val (.ref a1), .val (.int p1)] [(.ref a1)])) _
    exact k
  obtain ⟨T1, X1, e1, st1⟩ := initO X0 hx hZ hown (hw _ (List.mem_of_getElem? (i := 6) rfl)) (hw _ (List.mem_of_getElem? (i := 7) rfl)) (hw _ (List.mem_of_getElem? (i := 8) rfl)) e0 (g := (mkF m 1 #[.val (.ref a1), .val (.int p1)] [(.ref a1)])) rfl (by rw [hml]; rfl) rfl (hb hby d1_1) (by decide) (W := 0) (by show 2 * 0 + _ ≤ _; exact Nat.le_of_eq rfl) (by decide)
  refine OwnWp.step st1 ?_
  show OwnWp p e below s _ _ _ (T1.setTop (mkF m 4 #[.val (.ref a1), .val (.int p1)] []))
  refine OwnWp.step (U' := T1.setTop (mkF m 6 #[.val (.ref a1), .val (.int p1)] [(.int p1), (.ref a1)])) (fun t k => ?_) ?_
  · show Steps p.tables e below (T1.setTop (mkF m 4 #[.val (.ref a1), .val (.int p1)] [])) _
    refine XS.aloadN X1.here hx rfl (hb hby d1_4) rfl rfl ?_
    show Steps p.tables e below (T1.setTop (mkF m 5 #[.val (.ref a1), .val (.int p1)] [(.ref a1)])) _
    refine XS.iloadN X1.here hx rfl (hb hby d1_5) rfl ?_
    show Steps p.tables e below (T1.setTop (mkF m 6 #[.val (.ref a1), .val (.int p1)] [(.int p1), (.ref a1)])) _
    exact k
  obtain ⟨T2, h2, cA2, X2, e2, E2, Ar2, st2⟩ := newP X1 hx hZ (aty := .long) (hw _ (List.mem_of_getElem? (i := 9) rfl)) e1 (g := (mkF m 6 #[.val (.ref a1), .val (.int p1)] [(.int p1), (.ref a1)])) rfl (hb hby d1_6) rfl h1 (cap := 2) h2 (by decide) (by decide) (by decide)
  obtain ⟨ad2, ga2⟩ : ∃ z, z = h0.size := ⟨_, rfl⟩
  rw [← ga2] at Ar2 st2
  refine OwnWp.step st2 ?_
  have ne2_3 : a1 ≠ ad2 := Nat.ne_of_lt (by rw [ga2]; exact F0.lt)
  have Z2 : n0 ≤ h2.size := Nat.le_trans Z0 E2.1
  have b2 : n0 ≤ ad2 := Nat.le_trans Z0 (Nat.le_of_eq ga2.symm)
  have bk2 : h0.size ≤ ad2 := by rw [ga2]; exact K0.1
  have K4 := Keep.ext K0 E2
  have f5 := Exa.ext E2 E0
  have f6 := Fld.ext E2 F0
  have F7 : OwnA Z h2 ad2 .long p1 (fun _ => (.long (0 : Int64))) := OwnA.new Ar2 h3
  show OwnWp p e below s _ _ _ (T2.setTop (mkF m 8 #[.val (.ref a1), .val (.int p1)] [(.ref ad2), (.ref a1)]))
  obtain ⟨T8, h8, X8, e8, W8, st8⟩ := putF X2 hx hZ hown (host := "") (Or.inl (hw _ (List.mem_of_getElem? (i := 10) rfl))) Via.refl e2 f6 f5 (Or.inr ⟨(hw _ (List.mem_of_getElem? (i := 11) rfl)), rfl, hnm⟩) (hw _ (List.mem_of_getElem? (i := 1) rfl)) (ty := (.array .long)) (by decide) rfl rfl (g := (mkF m 8 #[.val (.ref a1), .val (.int p1)] [(.ref ad2), (.ref a1)])) rfl rfl (hb hby d1_8)
  have N8 := own_frs (sl := Jvm.RoadKit.slotOf Z "com/example/tynemouth/tynemouth/control/PoolOccupancy" "present" "[J") N0 g0
  have Z8 : n0 ≤ h8.size := by rw [W8.size]; exact Z2
  refine OwnWp.step st8 ?_
  have f9 := Exa.wr W8 f5
  have f10 := Fld.same W8 f6
  have f11 := OwnA.other F7 W8 ne2_3.symm
  have K12 := Keep.wr K4 W8 (Or.inl (List.mem_of_getElem? (i := 0) rfl))
  show OwnWp p e below s _ _ _ (T8.setTop (mkF m 11 #[.val (.ref a1), .val (.int p1)] []))
  refine OwnWp.retV X8 hx hlk Bd.returns (hb hby d1_11) (by decide) (by decide) ?_
  rw [e8]
  exact ⟨rfl, N8, K12, ad2, b2, ne2_3, f10, f11⟩
theorem d3_0 : decode prog_26_method_2_code 0 = .ok (.aload_n 0, 1) := by decide +kernel
theorem d3_1 : decode prog_26_method_2_code 1 = .ok (.getfield 7, 3) := by decide +kernel
theorem d3_4 : decode prog_26_method_2_code 4 = .ok (.iload_n 1, 1) := by decide +kernel
theorem d3_5 : decode prog_26_method_2_code 5 = .ok (.iconst 1, 1) := by decide +kernel
theorem d3_6 : decode prog_26_method_2_code 6 = .ok (.isub, 1) := by decide +kernel
theorem d3_7 : decode prog_26_method_2_code 7 = .ok (.laload, 1) := by decide +kernel
theorem d3_8 : decode prog_26_method_2_code 8 = .ok (.lload_n 2, 1) := by decide +kernel
theorem d3_9 : decode prog_26_method_2_code 9 = .ok (.lcmp, 1) := by decide +kernel
theorem d3_10 : decode prog_26_method_2_code 10 = .ok (.ifCond .ge 7, 3) := by decide +kernel
theorem d3_13 : decode prog_26_method_2_code 13 = .ok (.iconst 1, 1) := by decide +kernel
theorem d3_14 : decode prog_26_method_2_code 14 = .ok (.goto 4, 3) := by decide +kernel
theorem d3_17 : decode prog_26_method_2_code 17 = .ok (.iconst 0, 1) := by decide +kernel
theorem d3_18 : decode prog_26_method_2_code 18 = .ok (.istore 4, 2) := by decide +kernel
theorem d3_20 : decode prog_26_method_2_code 20 = .ok (.iload 4, 2) := by decide +kernel
theorem d3_22 : decode prog_26_method_2_code 22 = .ok (.ifCond .eq 15, 3) := by decide +kernel
theorem d3_25 : decode prog_26_method_2_code 25 = .ok (.aload_n 0, 1) := by decide +kernel
theorem d3_26 : decode prog_26_method_2_code 26 = .ok (.getfield 7, 3) := by decide +kernel
theorem d3_29 : decode prog_26_method_2_code 29 = .ok (.iload_n 1, 1) := by decide +kernel
theorem d3_30 : decode prog_26_method_2_code 30 = .ok (.iconst 1, 1) := by decide +kernel
theorem d3_31 : decode prog_26_method_2_code 31 = .ok (.isub, 1) := by decide +kernel
theorem d3_32 : decode prog_26_method_2_code 32 = .ok (.dup2, 1) := by decide +kernel
theorem d3_33 : decode prog_26_method_2_code 33 = .ok (.laload, 1) := by decide +kernel
theorem d3_34 : decode prog_26_method_2_code 34 = .ok (.lconst 1, 1) := by decide +kernel
theorem d3_35 : decode prog_26_method_2_code 35 = .ok (.ladd, 1) := by decide +kernel
theorem d3_36 : decode prog_26_method_2_code 36 = .ok (.lastore, 1) := by decide +kernel
theorem d3_37 : decode prog_26_method_2_code 37 = .ok (.iload 4, 2) := by decide +kernel
theorem d3_39 : decode prog_26_method_2_code 39 = .ok (.ireturn, 1) := by decide +kernel
theorem pn_3 : plainFor (⟨"com/example/tynemouth/tynemouth/control/PoolOccupancy", "admitBelow", "(IJ)Z"⟩ : MethodName) = true := plainFor_of_name (by first | (simp [plainName, overriddenIn]; done) | decide +kernel)
theorem pd_3 : parseMethodDescriptor "(IJ)Z" = some ⟨[.int, .long], some .boolean⟩ := by decide +kernel
theorem ef_3 (m : MethodId) (x0 : Addr) (x1 : Int32) (x2 : Int64) : entryFrame m #[(.ref x0), (.int x1), (.long x2)] 5 = mkF m 0 #[.val (.ref x0), .val (.int x1), .val (.long x2), .second, .unset] [] := by first | (simp [entryFrame, mkF, argsToLocals, Value.category, maxLocals]; done) | rfl
def Q3 (Z : State) (a1 : Addr) (p1 : Int32) (p2 : Int64) (b1 : Addr) (f : Int → Int64) (h0 : Heap) (n0 : Nat) (v : Option Value) (h : Heap) (L : List Loc) : Prop := v = some (.int (if f (p1 - (1 : Int32)).toInt < p2 then 1 else 0)) ∧ Fr n0 L ∧ Keep h0 h [b1] ∧ OwnA Z h b1 .long (2 : Int32) (fun i => .long ((own_adm f (p1 - (1 : Int32)).toInt p2) i))
set_option maxRecDepth 65536 in
set_option maxHeartbeats 40000000 in
theorem rm3 (l : Launch) (Z : State) (a0 : Array Value) (hw : ∀ d ∈ tables_1, d.before a0 Z = true) (ws : List Jvm.Cond) (a1 : Addr) (p1 : Int32) (p2 : Int64) (b1 : Addr) (f : Int → Int64) (h0 : Heap) (n0 : Nat) (Z0 : n0 ≤ h0.size) (g0 : n0 ≤ b1) (ne0 : a1 ≠ b1) (F0 : Fld Z h0 a1 "com/example/tynemouth/tynemouth/control/PoolOccupancy" "present" "[J" (.ref b1)) (A0 : OwnA Z h0 b1 .long (2 : Int32) (fun i => .long (f i))) (hi : 0 ≤ (p1 - (1 : Int32)).toInt) (hj : (p1 - (1 : Int32)).toInt < (2 : Int32).toInt) :
    MetFree l (⟨"com/example/tynemouth/tynemouth/control/PoolOccupancy", "admitBelow", "(IJ)Z"⟩ : MethodName) (head1 (Jvm.Cond.code (⟨"com/example/tynemouth/tynemouth/control/PoolOccupancy", "admitBelow", "(IJ)Z"⟩ : MethodName) prog_26_method_2_code 5 (some .boolean) :: ws) ({ frames := 0, cells := 0, slots := 0, locals := 0 } : Room)) (fun a U => a = #[(.ref a1), (.int p1), (.long p2)] ∧ Z.Warmed39 U.vm ∧ U.heap = h0) (fun _ _ _ _ _ => True) (fun _ U o U' => ∃ v L, o = .returned v ∧ Q3 Z a1 p1 p2 b1 f h0 n0 v U'.heap L ∧ FrameEnd U o U' L ({ frames := 0, cells := 0, slots := 0, locals := 0 } : Room).cells ({ frames := 0, cells := 0, slots := 0, locals := 0 } : Room).slots) := by
  refine MetFree.of_bodySF pn_3 hisR ?_
  intro p e s m args below meth c s₁ Bd hml0 hP hK
  obtain ⟨rfl, hZ, hh⟩ := hP
  have hx := Bd.exec
  have hby := Bd.bytes
  have hlk := BodyLoose.notSynchronized Bd
  have hml : c.maxLocals = 5 := hml0
  have hown : s.vm.findClass "com/example/tynemouth/tynemouth/control/PoolOccupancy" = some m.cls := findClass_of_methodNamed Bd.named
  have hnm := (name_of_methodNamed Bd.named Bd.method).1
  have X0 : Stand p l e ({ frames := 0, cells := 0, slots := 0, locals := 0 } : Room) s m #[(.ref a1), (.int p1), (.long p2)] below meth c s₁ [] 0 0 := Stand.of_body Bd
  have e0 : s₁.heap = h0 := by rw [← hh, Bd.state]; rfl
  have N0 := Fr.nil n0
  show OwnWp p e below s ({ frames := 0, cells := 0, slots := 0, locals := 0 } : Room).cells ({ frames := 0, cells := 0, slots := 0, locals := 0 } : Room).slots (Q3 Z a1 p1 p2 b1 f h0 n0) (s₁.setTop (entryFrame m #[(.ref a1), (.int p1), (.long p2)] 5))
  refine OwnWp.cast (ef_3 m a1 p1 p2) ?_
  show OwnWp p e below s _ _ _ (s₁.setTop (mkF m 0 #[.val (.ref a1), .val (.int p1), .val (.long p2), .second, .unset] []))
  have K0 := Keep.refl h0 [b1]
  refine OwnWp.step (U' := s₁.setTop (mkF m 1 #[.val (.ref a1), .val (.int p1), .val (.long p2), .second, .unset] [(.ref a1)])) (fun t k => ?_) ?_
  · show Steps p.tables e below (s₁.setTop (mkF m 0 #[.val (.ref a1), .val (.int p1), .val (.long p2), .second, .unset] [])) _
    refine XS.aloadN X0.here hx rfl (hb hby d3_0) rfl rfl ?_
    show Steps p.tables e below (s₁.setTop (mkF m 1 #[.val (.ref a1), .val (.int p1), .val (.long p2), .second, .unset] [(.ref a1)])) _
    exact k
  obtain ⟨T13, X13, e13, st13⟩ := getF X0 hx hZ hown (host := "") (Or.inl (hw _ (List.mem_of_getElem? (i := 10) rfl))) Via.refl e0 F0 (g := (mkF m 1 #[.val (.ref a1), .val (.int p1), .val (.long p2), .second, .unset] [(.ref a1)])) rfl rfl (hb hby d3_1)
  refine OwnWp.step st13 ?_
  show OwnWp p e below s _ _ _ (T13.setTop (mkF m 4 #[.val (.ref a1), .val (.int p1), .val (.long p2), .second, .unset] [(.ref b1)]))
  refine OwnWp.step (U' := T13.setTop (mkF m 10 #[.val (.ref a1), .val (.int p1), .val (.long p2), .second, .unset] [(.int (XT.cmpL (f (p1 - (1 : Int32)).toInt) p2))])) (fun t k => ?_) ?_
  · show Steps p.tables e below (T13.setTop (mkF m 4 #[.val (.ref a1), .val (.int p1), .val (.long p2), .second, .unset] [(.ref b1)])) _
    refine XS.iloadN X13.here hx rfl (hb hby d3_4) rfl ?_
    show Steps p.tables e below (T13.setTop (mkF m 5 #[.val (.ref a1), .val (.int p1), .val (.long p2), .second, .unset] [(.int p1), (.ref b1)])) _
    refine XT.iconstV X13.here hx rfl (1 : Int32) (hb hby d3_5) rfl ?_
    show Steps p.tables e below (T13.setTop (mkF m 6 #[.val (.ref a1), .val (.int p1), .val (.long p2), .second, .unset] [(.int (1 : Int32)), (.int p1), (.ref b1)])) _
    refine XS.isub X13.here hx rfl (hb hby d3_6) rfl ?_
    show Steps p.tables e below (T13.setTop (mkF m 7 #[.val (.ref a1), .val (.int p1), .val (.long p2), .second, .unset] [(.int (p1 - (1 : Int32))), (.ref b1)])) _
    refine OwnA.ldJ X13 hx hZ e13 A0 hi hj rfl rfl (hb hby d3_7) ?_
    show Steps p.tables e below (T13.setTop (mkF m 8 #[.val (.ref a1), .val (.int p1), .val (.long p2), .second, .unset] [(.long (f (p1 - (1 : Int32)).toInt))])) _
    refine XT.lloadN X13.here hx rfl (hb hby d3_8) rfl ?_
    show Steps p.tables e below (T13.setTop (mkF m 9 #[.val (.ref a1), .val (.int p1), .val (.long p2), .second, .unset] [(.long p2), (.long (f (p1 - (1 : Int32)).toInt))])) _
    refine XT.lcmp X13.here hx rfl (hb hby d3_9) rfl ?_
    show Steps p.tables e below (T13.setTop (mkF m 10 #[.val (.ref a1), .val (.int p1), .val (.long p2), .second, .unset] [(.int (XT.cmpL (f (p1 - (1 : Int32)).toInt) p2))])) _
    exact k
  obtain ⟨w1, qw1⟩ : ∃ z : Int32, z = (if (f (p1 - (1 : Int32)).toInt) < p2 then (1 : Int32) else (0 : Int32)) := ⟨_, rfl⟩
  refine OwnWp.step (U' := T13.setTop (mkF m 18 #[.val (.ref a1), .val (.int p1), .val (.long p2), .second, .unset] [(.int w1)])) (fun t k => ?_) ?_
  · show Steps p.tables e below (T13.setTop (mkF m 10 #[.val (.ref a1), .val (.int p1), .val (.long p2), .second, .unset] [(.int (XT.cmpL (f (p1 - (1 : Int32)).toInt) p2))])) _
    by_cases c10_14 : (f (p1 - (1 : Int32)).toInt) < p2
    · refine XS.ifNo X13.here hx rfl (hb hby d3_10) rfl (XT.ll_ge_f c10_14) ?_
      show Steps p.tables e below (T13.setTop (mkF m 13 #[.val (.ref a1), .val (.int p1), .val (.long p2), .second, .unset] [])) _
      refine XT.iconstV X13.here hx rfl (1 : Int32) (hb hby d3_13) rfl ?_
      show Steps p.tables e below (T13.setTop (mkF m 14 #[.val (.ref a1), .val (.int p1), .val (.long p2), .second, .unset] [(.int (1 : Int32))])) _
      refine XS.goto X13.here hx rfl (pc0 := 14) (pc' := 18) rfl (hb hby d3_14) (by decide) (by decide) ?_
      show Steps p.tables e below (T13.setTop (mkF m 18 #[.val (.ref a1), .val (.int p1), .val (.long p2), .second, .unset] [(.int (1 : Int32))])) _
      rw [show w1 = (1 : Int32) from by rw [qw1, if_pos c10_14]] at k
      exact k
    · refine XS.ifYes X13.here hx rfl (pc0 := 10) (pc' := 17) rfl (hb hby d3_10) rfl (XT.ll_ge_t c10_14) (by decide) (by decide) ?_
      show Steps p.tables e below (T13.setTop (mkF m 17 #[.val (.ref a1), .val (.int p1), .val (.long p2), .second, .unset] [])) _
      refine XT.iconstV X13.here hx rfl (0 : Int32) (hb hby d3_17) rfl ?_
      show Steps p.tables e below (T13.setTop (mkF m 18 #[.val (.ref a1), .val (.int p1), .val (.long p2), .second, .unset] [(.int (0 : Int32))])) _
      rw [show w1 = (0 : Int32) from by rw [qw1, if_neg c10_14]] at k
      exact k
  refine OwnWp.step (U' := T13.setTop (mkF m 22 #[.val (.ref a1), .val (.int p1), .val (.long p2), .second, .val (.int w1)] [(.int w1)])) (fun t k => ?_) ?_
  · show Steps p.tables e below (T13.setTop (mkF m 18 #[.val (.ref a1), .val (.int p1), .val (.long p2), .second, .unset] [(.int w1)])) _
    refine XS.istore X13.here hx rfl (hb hby d3_18) rfl (l' := #[.val (.ref a1), .val (.int p1), .val (.long p2), .second, .val (.int w1)]) rfl ?_
    show Steps p.tables e below (T13.setTop (mkF m 20 #[.val (.ref a1), .val (.int p1), .val (.long p2), .second, .val (.int w1)] [])) _
    refine XS.iload X13.here hx rfl (hb hby d3_20) rfl ?_
    show Steps p.tables e below (T13.setTop (mkF m 22 #[.val (.ref a1), .val (.int p1), .val (.long p2), .second, .val (.int w1)] [(.int w1)])) _
    exact k
  by_cases c22_15 : w1 = (0 : Int32)
  · refine OwnWp.step (U' := T13.setTop (mkF m 37 #[.val (.ref a1), .val (.int p1), .val (.long p2), .second, .val (.int w1)] [])) (fun t k => ?_) ?_
    · show Steps p.tables e below (T13.setTop (mkF m 22 #[.val (.ref a1), .val (.int p1), .val (.long p2), .second, .val (.int w1)] [(.int w1)])) _
      refine XS.ifYes X13.here hx rfl (pc0 := 22) (pc' := 37) rfl (hb hby d3_22) rfl (XT.i0_eq_t c22_15) (by decide) (by decide) ?_
      exact k
    have hn : ¬ f (p1 - (1 : Int32)).toInt < p2 := fun h => by rw [if_pos h] at qw1; rw [qw1] at c22_15; exact absurd c22_15 (by decide)
    refine OwnWp.step (U' := T13.setTop (mkF m 39 #[.val (.ref a1), .val (.int p1), .val (.long p2), .second, .val (.int w1)] [(.int w1)])) (fun t k => ?_) ?_
    · show Steps p.tables e below (T13.setTop (mkF m 37 #[.val (.ref a1), .val (.int p1), .val (.long p2), .second, .val (.int w1)] [])) _
      refine XS.iload X13.here hx rfl (hb hby d3_37) rfl ?_
      show Steps p.tables e below (T13.setTop (mkF m 39 #[.val (.ref a1), .val (.int p1), .val (.long p2), .second, .val (.int w1)] [(.int w1)])) _
      exact k
    refine OwnWp.retZ X13 hx hlk Bd.returns (hb hby d3_39) (by decide) (by decide) (Or.inl c22_15) ?_
    rw [e13]
    refine ⟨by rw [qw1], N0, K0, A0.congr (fun i _ _ => by rw [own_adm, if_neg hn])⟩
  · refine OwnWp.step (U' := T13.setTop (mkF m 25 #[.val (.ref a1), .val (.int p1), .val (.long p2), .second, .val (.int w1)] [])) (fun t k => ?_) ?_
    · show Steps p.tables e below (T13.setTop (mkF m 22 #[.val (.ref a1), .val (.int p1), .val (.long p2), .second, .val (.int w1)] [(.int w1)])) _
      refine XS.ifNo X13.here hx rfl (hb hby d3_22) rfl (XT.i0_eq_f c22_15) ?_
      exact k
    have hn : f (p1 - (1 : Int32)).toInt < p2 := Classical.byContradiction fun h => by rw [if_neg h] at qw1; exact c22_15 qw1
    refine OwnWp.step (U' := T13.setTop (mkF m 26 #[.val (.ref a1), .val (.int p1), .val (.long p2), .second, .val (.int w1)] [(.ref a1)])) (fun t k => ?_) ?_
    · show Steps p.tables e below (T13.setTop (mkF m 25 #[.val (.ref a1), .val (.int p1), .val (.long p2), .second, .val (.int w1)] [])) _
      refine XS.aloadN X13.here hx rfl (hb hby d3_25) rfl rfl ?_
      show Steps p.tables e below (T13.setTop (mkF m 26 #[.val (.ref a1), .val (.int p1), .val (.long p2), .second, .val (.int w1)] [(.ref a1)])) _
      exact k
    obtain ⟨T16, X16, e16, st16⟩ := getF X13 hx hZ hown (host := "") (Or.inl (hw _ (List.mem_of_getElem? (i := 10) rfl))) Via.refl e13 F0 (g := (mkF m 26 #[.val (.ref a1), .val (.int p1), .val (.long p2), .second, .val (.int w1)] [(.ref a1)])) rfl rfl (hb hby d3_26)
    refine OwnWp.step st16 ?_
    show OwnWp p e below s _ _ _ (T16.setTop (mkF m 29 #[.val (.ref a1), .val (.int p1), .val (.long p2), .second, .val (.int w1)] [(.ref b1)]))
    refine OwnWp.step (U' := T16.setTop (mkF m 36 #[.val (.ref a1), .val (.int p1), .val (.long p2), .second, .val (.int w1)] [(.long ((f (p1 - (1 : Int32)).toInt) + (1 : Int64))), (.int (p1 - (1 : Int32))), (.ref b1)])) (fun t k => ?_) ?_
    · show Steps p.tables e below (T16.setTop (mkF m 29 #[.val (.ref a1), .val (.int p1), .val (.long p2), .second, .val (.int w1)] [(.ref b1)])) _
      refine XS.iloadN X16.here hx rfl (hb hby d3_29) rfl ?_
      show Steps p.tables e below (T16.setTop (mkF m 30 #[.val (.ref a1), .val (.int p1), .val (.long p2), .second, .val (.int w1)] [(.int p1), (.ref b1)])) _
      refine XT.iconstV X16.here hx rfl (1 : Int32) (hb hby d3_30) rfl ?_
      show Steps p.tables e below (T16.setTop (mkF m 31 #[.val (.ref a1), .val (.int p1), .val (.long p2), .second, .val (.int w1)] [(.int (1 : Int32)), (.int p1), (.ref b1)])) _
      refine XS.isub X16.here hx rfl (hb hby d3_31) rfl ?_
      show Steps p.tables e below (T16.setTop (mkF m 32 #[.val (.ref a1), .val (.int p1), .val (.long p2), .second, .val (.int w1)] [(.int (p1 - (1 : Int32))), (.ref b1)])) _
      refine XT.dup2 X16.here hx rfl (hb hby d3_32) rfl rfl rfl ?_
      show Steps p.tables e below (T16.setTop (mkF m 33 #[.val (.ref a1), .val (.int p1), .val (.long p2), .second, .val (.int w1)] [(.int (p1 - (1 : Int32))), (.ref b1), (.int (p1 - (1 : Int32))), (.ref b1)])) _
      refine OwnA.ldJ X16 hx hZ e16 A0 hi hj rfl rfl (hb hby d3_33) ?_
      show Steps p.tables e below (T16.setTop (mkF m 34 #[.val (.ref a1), .val (.int p1), .val (.long p2), .second, .val (.int w1)] [(.long (f (p1 - (1 : Int32)).toInt)), (.int (p1 - (1 : Int32))), (.ref b1)])) _
      refine XT.lconstV X16.here hx rfl (1 : Int64) (hb hby d3_34) rfl ?_
      show Steps p.tables e below (T16.setTop (mkF m 35 #[.val (.ref a1), .val (.int p1), .val (.long p2), .second, .val (.int w1)] [(.long (1 : Int64)), (.long (f (p1 - (1 : Int32)).toInt)), (.int (p1 - (1 : Int32))), (.ref b1)])) _
      refine XT.ladd X16.here hx rfl (hb hby d3_35) rfl ?_
      show Steps p.tables e below (T16.setTop (mkF m 36 #[.val (.ref a1), .val (.int p1), .val (.long p2), .second, .val (.int w1)] [(.long ((f (p1 - (1 : Int32)).toInt) + (1 : Int64))), (.int (p1 - (1 : Int32))), (.ref b1)])) _
      exact k
    obtain ⟨T17, h17, L17, X17, e17, N17, K17, F17, st17⟩ := OwnA.stJ X16 hx hZ e16 N0 g0 A0 hi hj (g := (mkF m 36 #[.val (.ref a1), .val (.int p1), .val (.long p2), .second, .val (.int w1)] [(.long ((f (p1 - (1 : Int32)).toInt) + (1 : Int64))), (.int (p1 - (1 : Int32))), (.ref b1)])) rfl rfl (hb hby d3_36)
    refine OwnWp.step st17 ?_
    have Z17 : n0 ≤ h17.size := Nat.le_trans Z0 K17.1
    have f18 := Fld.keep F0 K17 (ninS ne0 nin0)
    have F19 : OwnA Z h17 b1 .long (2 : Int32) (fun i => .long ((ownUpd f (p1 - (1 : Int32)).toInt ((f (p1 - (1 : Int32)).toInt) + (1 : Int64))) i)) := F17.congr (fun i _ _ => by simp only [ownUpd]; split <;> rfl)
    have K20 := Keep.trans K0 K17 (allS (Or.inl (List.mem_of_getElem? (i := 0) rfl)) all0)
    show OwnWp p e below s _ _ _ (T17.setTop (mkF m 37 #[.val (.ref a1), .val (.int p1), .val (.long p2), .second, .val (.int w1)] []))
    refine OwnWp.step (U' := T17.setTop (mkF m 39 #[.val (.ref a1), .val (.int p1), .val (.long p2), .second, .val (.int w1)] [(.int w1)])) (fun t k => ?_) ?_
    · show Steps p.tables e below (T17.setTop (mkF m 37 #[.val (.ref a1), .val (.int p1), .val (.long p2), .second, .val (.int w1)] [])) _
      refine XS.iload X17.here hx rfl (hb hby d3_37) rfl ?_
      show Steps p.tables e below (T17.setTop (mkF m 39 #[.val (.ref a1), .val (.int p1), .val (.long p2), .second, .val (.int w1)] [(.int w1)])) _
      exact k
    refine OwnWp.retZ X17 hx hlk Bd.returns (hb hby d3_39) (by decide) (by decide) (Or.inr (by rw [qw1, if_pos hn])) ?_
    rw [e17]
    refine ⟨by rw [qw1], N17, K20, F19.congr (fun i _ _ => by rw [own_adm, if_pos hn])⟩
theorem own_law (p2 : Int64) (w1 w2 : Int32) (c2 c3 : Int64) (f3 : Int → Int64) (hne : (w1 - (1 : Int32)).toInt ≠ (w2 - (1 : Int32)).toInt) (hc2 : 0 ≤ c2.toInt ∧ c2.toInt ≤ 2) (hc3 : 0 ≤ c3.toInt ∧ c3.toInt ≤ 1) (hx3 : f3 (w2 - (1 : Int32)).toInt = c3) (hy3 : f3 (w1 - (1 : Int32)).toInt = c2) (w3 : Int32) (qw3 : w3 = (if f3 (w1 - (1 : Int32)).toInt < p2 then (1 : Int32) else (0 : Int32))) (w4 : Int32) (qw4 : w4 = (if c2 < p2 then (1 : Int32) else (0 : Int32))) (w5 : Int64) (qw5 : w5 = (if w4 = (0 : Int32) then c2 else (c2 + (1 : Int64)))) (w6 : Int32) (qw6 : w6 = (if w3 = w4 then (1 : Int32) else (0 : Int32))) (w7 : Int32) (qw7 : w7 = ((1 : Int32) &&& w6)) (w8 : Int32) (qw8 : w8 = (if (if (own_adm f3 (w1 - (1 : Int32)).toInt p2) (w1 - (1 : Int32)).toInt < w5 then (1 : Int32) else (0 : Int32)) = (0 : Int32) then (1 : Int32) else (0 : Int32))) (w9 : Int32) (qw9 : w9 = (w7 &&& w8)) (w10 : Int32) (qw10 : w10 = (w9 &&& (if (own_adm (own_adm f3 (w1 - (1 : Int32)).toInt p2) (w1 - (1 : Int32)).toInt w5) (w1 - (1 : Int32)).toInt < (w5 + (1 : Int64)) then (1 : Int32) else (0 : Int32)))) (w11 : Int32) (qw11 : w11 = (if (if (own_adm (own_adm (own_adm f3 (w1 - (1 : Int32)).toInt p2) (w1 - (1 : Int32)).toInt w5) (w1 - (1 : Int32)).toInt (w5 + (1 : Int64))) (w2 - (1 : Int32)).toInt < c3 then (1 : Int32) else (0 : Int32)) = (0 : Int32) then (1 : Int32) else (0 : Int32))) (w12 : Int32) (qw12 : w12 = (w10 &&& w11)) (w13 : Int32) (qw13 : w13 = (w12 &&& (if (own_adm (own_adm (own_adm (own_adm f3 (w1 - (1 : Int32)).toInt p2) (w1 - (1 : Int32)).toInt w5) (w1 - (1 : Int32)).toInt (w5 + (1 : Int64))) (w2 - (1 : Int32)).toInt c3) (w2 - (1 : Int32)).toInt < (c3 + (1 : Int64)) then (1 : Int32) else (0 : Int32)))) : w13 = 1 := by
  have hr : w3 = w4 := by rw [qw3, qw4, hy3]
  have h6 : w6 = 1 := by rw [qw6, if_pos hr]
  have h7 : w7 = 1 := by rw [qw7, h6]; rfl
  generalize hti : (w1 - (1 : Int32)).toInt = ti at *
  generalize hoi : (w2 - (1 : Int32)).toInt = oi at *
  have a1 : own_adm f3 ti p2 ti = w5 := by
    rw [own_adm_same, hy3, qw5, qw4]
    by_cases q : c2 < p2
    · rw [if_pos q, if_pos q]; rfl
    · rw [if_neg q, if_neg q]; rfl
  have b5 : 0 ≤ w5.toInt ∧ w5.toInt ≤ 3 := by
    have := own_inc c2 hc2.1 (by omega)
    rw [qw5]; split <;> omega
  have h8 : w8 = 1 := by
    rw [qw8, a1, if_neg (own_lirr w5)]; rfl
  have h9 : w9 = 1 := by rw [qw9, h7, h8]; rfl
  have a2 : own_adm (own_adm f3 ti p2) ti w5 ti = w5 := by rw [own_adm_same, a1, if_neg (own_lirr w5)]
  have h10 : w10 = 1 := by
    rw [qw10, h9, a2, if_pos (own_llt w5 b5.1 (by omega))]; rfl
  have a3 : own_adm (own_adm (own_adm f3 ti p2) ti w5) ti (w5 + (1 : Int64)) oi = c3 := by
    rw [own_adm_ne _ _ _ (Ne.symm hne), own_adm_ne _ _ _ (Ne.symm hne), own_adm_ne _ _ _ (Ne.symm hne), hx3]
  have h11 : w11 = 1 := by
    rw [qw11, a3, if_neg (own_lirr c3)]; rfl
  have h12 : w12 = 1 := by rw [qw12, h10, h11]; rfl
  have a4 : own_adm (own_adm (own_adm (own_adm f3 ti p2) ti w5) ti (w5 + (1 : Int64))) oi c3 oi = c3 := by
    rw [own_adm_same, a3, if_neg (own_lirr c3)]
  rw [qw13, h12, a4, if_pos (own_llt c3 hc3.1 (by omega))]; rfl

theorem pn_0 : plainFor (⟨"com/example/tynemouth/tynemouth/control/PoolOccupancyAdmitBelowPinLaw", "law", "(IJI)Z"⟩ : MethodName) = true := plainFor_of_name (by first | (simp [plainName, overriddenIn]; done) | decide +kernel)
theorem pd_0 : parseMethodDescriptor "(IJI)Z" = some ⟨[.int, .long, .int], some .boolean⟩ := by decide +kernel
theorem ef_0 (m : MethodId) (x0 : Int32) (x1 : Int64) (x2 : Int32) : entryFrame m #[(.int x0), (.long x1), (.int x2)] maxLocals = mkF m 0 #[.val (.int x0), .val (.long x1), .second, .val (.int x2), .unset, .unset, .unset, .unset, .unset, .unset, .unset, .unset, .unset, .unset, .unset, .unset] [] := by first | (simp [entryFrame, mkF, argsToLocals, Value.category, maxLocals]; done) | rfl
def Q0 (Z : State) (p1 : Int32) (p2 : Int64) (p3 : Int32)  (h0 : Heap) (n0 : Nat) (v : Option Value) (h : Heap) (L : List Loc) : Prop := v = some (.int 1) ∧ Fr n0 L
set_option maxRecDepth 65536 in
set_option maxHeartbeats 40000000 in
theorem rm0 (l : Launch) (Z : State) (a0 : Array Value) (hw : ∀ d ∈ tables_1, d.before a0 Z = true) (ws : List Jvm.Cond) (p1 : Int32) (p2 : Int64) (p3 : Int32)  (h0 : Heap) (n0 : Nat) (Z0 : n0 ≤ h0.size)  :
    MetFree l x (head1 (Jvm.Cond.code x code maxLocals ret :: ws) room_1) (fun a U => a = #[(.int p1), (.long p2), (.int p3)] ∧ Z.Warmed39 U.vm ∧ U.heap = h0) (fun _ _ _ _ _ => True) (fun _ U o U' => ∃ v L, o = .returned v ∧ Q0 Z p1 p2 p3  h0 n0 v U'.heap L ∧ FrameEnd U o U' L room_1.cells room_1.slots) := by
  refine MetFree.of_bodySF pn_0 hisR ?_
  intro p e s m args below meth c s₁ Bd hml0 hP hK
  obtain ⟨rfl, hZ, hh⟩ := hP
  have hx := Bd.exec
  have hby := Bd.bytes
  have hlk := BodyLoose.notSynchronized Bd
  have hml : c.maxLocals = 16 := hml0
  have hown : s.vm.findClass "com/example/tynemouth/tynemouth/control/PoolOccupancyAdmitBelowPinLaw" = some m.cls := findClass_of_methodNamed Bd.named
  have hnm := (name_of_methodNamed Bd.named Bd.method).1
  have X0 : Stand p l e room_1 s m #[(.int p1), (.long p2), (.int p3)] below meth c s₁ [] 0 0 := Stand.of_body Bd
  have e0 : s₁.heap = h0 := by rw [← hh, Bd.state]; rfl
  have N0 := Fr.nil n0
  show OwnWp p e below s room_1.cells room_1.slots (Q0 Z p1 p2 p3  h0 n0) (s₁.setTop (entryFrame m #[(.int p1), (.long p2), (.int p3)] maxLocals))
  refine OwnWp.cast (ef_0 m p1 p2 p3) ?_
  show OwnWp p e below s _ _ _ (s₁.setTop (mkF m 0 #[.val (.int p1), .val (.long p2), .second, .val (.int p3), .unset, .unset, .unset, .unset, .unset, .unset, .unset, .unset, .unset, .unset, .unset, .unset] []))
  obtain ⟨T21, h21, X21, e21, E21, A21, D21, -, st21⟩ := newO X0 hx hZ hown (hw _ (List.mem_of_getElem? (i := 0) rfl)) (hw _ (List.mem_of_getElem? (i := 1) rfl)) (hw _ (List.mem_of_getElem? (i := 2) rfl)) e0 (g := (mkF m 0 #[.val (.int p1), .val (.long p2), .second, .val (.int p3), .unset, .unset, .unset, .unset, .unset, .unset, .unset, .unset, .unset, .unset, .unset, .unset] [])) rfl (hb hby at_0) (by decide) (by decide)
  obtain ⟨ad21, ga21⟩ : ∃ z, z = h0.size := ⟨_, rfl⟩
  rw [← ga21] at A21 D21 st21
  refine OwnWp.step st21 ?_
  have Z21 : n0 ≤ h21.size := Nat.le_trans Z0 E21.1
  have b21 : n0 ≤ ad21 := Nat.le_trans Z0 (Nat.le_of_eq ga21.symm)
  have F22 : Fld Z h21 ad21 "com/example/tynemouth/tynemouth/control/PoolOccupancy" "present" "[J" .null := D21 (Or.inr (hw _ (List.mem_of_getElem? (i := 11) rfl))) (ty := (.array .long)) (by decide)
  show OwnWp p e below s _ _ _ (T21.setTop (mkF m 3 #[.val (.int p1), .val (.long p2), .second, .val (.int p3), .unset, .unset, .unset, .unset, .unset, .unset, .unset, .unset, .unset, .unset, .unset, .unset] [(.ref ad21)]))
  refine OwnWp.step (U' := T21.setTop (mkF m 5 #[.val (.int p1), .val (.long p2), .second, .val (.int p3), .unset, .unset, .unset, .unset, .unset, .unset, .unset, .unset, .unset, .unset, .unset, .unset] [(.int (2 : Int32)), (.ref ad21), (.ref ad21)])) (fun t k => ?_) ?_
  · show Steps p.tables e below (T21.setTop (mkF m 3 #[.val (.int p1), .val (.long p2), .second, .val (.int p3), .unset, .unset, .unset, .unset, .unset, .unset, .unset, .unset, .unset, .unset, .unset, .unset] [(.ref ad21)])) _
    refine XS.dup X21.here hx rfl (hb hby at_3) rfl rfl ?_
    show Steps p.tables e below (T21.setTop (mkF m 4 #[.val (.int p1), .val (.long p2), .second, .val (.int p3), .unset, .unset, .unset, .unset, .unset, .unset, .unset, .unset, .unset, .unset, .unset, .unset] [(.ref ad21), (.ref ad21)])) _
    refine XT.iconstV X21.here hx rfl (2 : Int32) (hb hby at_4) rfl ?_
    show Steps p.tables e below (T21.setTop (mkF m 5 #[.val (.int p1), .val (.long p2), .second, .val (.int p3), .unset, .unset, .unset, .unset, .unset, .unset, .unset, .unset, .unset, .unset, .unset, .unset] [(.int (2 : Int32)), (.ref ad21), (.ref ad21)])) _
    exact k
  obtain ⟨_, _, ⟨T23, L23, k23, n23⟩, -, X23, ⟨Lc23, hQ23, l23, y23, z23⟩, st23⟩ := X21.specialBack hx (y := (⟨"com/example/tynemouth/tynemouth/control/PoolOccupancy", "<init>", "(I)V"⟩ : MethodName)) rfl hown (mvT hZ (hw _ (List.mem_of_getElem? (i := 3) rfl))) (mvT hZ (hw _ (List.mem_of_getElem? (i := 4) rfl))) (mvT hZ (hw _ (List.mem_of_getElem? (i := 5) rfl))) (by decide) (backOf (W := 1) (rm1 l Z a0 hw [] ad21 (2 : Int32) h21 n0 Z21 b21 A21 F22 (by decide) (by decide) (by decide)) hZ (hw _ (List.mem_of_getElem? (i := 5) rfl)) (hw _ (List.mem_of_getElem? (i := 2) rfl)) (by decide) (by decide)) (g := (mkF m 5 #[.val (.int p1), .val (.long p2), .second, .val (.int p3), .unset, .unset, .unset, .unset, .unset, .unset, .unset, .unset, .unset, .unset, .unset, .unset] [(.int (2 : Int32)), (.ref ad21), (.ref ad21)])) rfl (by rw [hml]; rfl) (Steps.refl _) (a := ad21) (argsL := [(.int (2 : Int32))]) (rest := [(.ref ad21)]) (lenOf pd_1 rfl) rfl (by show 2 * 0 + _ ≤ _; exact Nat.le_of_eq rfl) (hb hby at_5) (fun _ _ => ⟨rfl, e21, (by dsimp only [Pt.cells]; decide), (by dsimp only [Pt.slots]; decide)⟩)
  dsimp only [Pt.U, Pt.locs, Pt.cells, Pt.slots] at X23 l23 y23 z23 st23 hQ23
  subst l23 y23 z23
  obtain ⟨rfl, Nc23, Kc23, ⟨ab23, bb23, nb23, fb23, gb23⟩⟩ := hQ23
  have N23 := Fr.app N0 Nc23
  refine OwnWp.go st23 ?_
  have Z23 : n0 ≤ T23.heap.size := Nat.le_trans Z21 Kc23.1
  have f24 := Exa.keep A21 Kc23
  show OwnWp p e below s _ _ _ (T23.setTop (mkF m 8 #[.val (.int p1), .val (.long p2), .second, .val (.int p3), .unset, .unset, .unset, .unset, .unset, .unset, .unset, .unset, .unset, .unset, .unset, .unset] [(.ref ad21)]))
  obtain ⟨w1, qw1⟩ : ∃ z : Int32, z = ((1 : Int32) + (p1 &&& (1 : Int32))) := ⟨_, rfl⟩
  refine OwnWp.step (U' := T23.setTop (mkF m 17 #[.val (.int p1), .val (.long p2), .second, .val (.int p3), .val (.ref ad21), .val (.int w1), .unset, .unset, .unset, .unset, .unset, .unset, .unset, .unset, .unset, .unset] [])) (fun t k => ?_) ?_
  · show Steps p.tables e below (T23.setTop (mkF m 8 #[.val (.int p1), .val (.long p2), .second, .val (.int p3), .unset, .unset, .unset, .unset, .unset, .unset, .unset, .unset, .unset, .unset, .unset, .unset] [(.ref ad21)])) _
    refine XS.astore X23.here hx rfl (hb hby at_8) rfl rfl (l' := #[.val (.int p1), .val (.long p2), .second, .val (.int p3), .val (.ref ad21), .unset, .unset, .unset, .unset, .unset, .unset, .unset, .unset, .unset, .unset, .unset]) rfl ?_
    show Steps p.tables e below (T23.setTop (mkF m 10 #[.val (.int p1), .val (.long p2), .second, .val (.int p3), .val (.ref ad21), .unset, .unset, .unset, .unset, .unset, .unset, .unset, .unset, .unset, .unset, .unset] [])) _
    refine XT.iconstV X23.here hx rfl (1 : Int32) (hb hby at_10) rfl ?_
    show Steps p.tables e below (T23.setTop (mkF m 11 #[.val (.int p1), .val (.long p2), .second, .val (.int p3), .val (.ref ad21), .unset, .unset, .unset, .unset, .unset, .unset, .unset, .unset, .unset, .unset, .unset] [(.int (1 : Int32))])) _
    refine XS.iloadN X23.here hx rfl (hb hby at_11) rfl ?_
    show Steps p.tables e below (T23.setTop (mkF m 12 #[.val (.int p1), .val (.long p2), .second, .val (.int p3), .val (.ref ad21), .unset, .unset, .unset, .unset, .unset, .unset, .unset, .unset, .unset, .unset, .unset] [(.int p1), (.int (1 : Int32))])) _
    refine XT.iconstV X23.here hx rfl (1 : Int32) (hb hby at_12) rfl ?_
    show Steps p.tables e below (T23.setTop (mkF m 13 #[.val (.int p1), .val (.long p2), .second, .val (.int p3), .val (.ref ad21), .unset, .unset, .unset, .unset, .unset, .unset, .unset, .unset, .unset, .unset, .unset] [(.int (1 : Int32)), (.int p1), (.int (1 : Int32))])) _
    refine XS.iand X23.here hx rfl (hb hby at_13) rfl ?_
    show Steps p.tables e below (T23.setTop (mkF m 14 #[.val (.int p1), .val (.long p2), .second, .val (.int p3), .val (.ref ad21), .unset, .unset, .unset, .unset, .unset, .unset, .unset, .unset, .unset, .unset, .unset] [(.int (p1 &&& (1 : Int32))), (.int (1 : Int32))])) _
    refine XS.iadd X23.here hx rfl (hb hby at_14) rfl ?_
    show Steps p.tables e below (T23.setTop (mkF m 15 #[.val (.int p1), .val (.long p2), .second, .val (.int p3), .val (.ref ad21), .unset, .unset, .unset, .unset, .unset, .unset, .unset, .unset, .unset, .unset, .unset] [(.int ((1 : Int32) + (p1 &&& (1 : Int32))))])) _
    refine XS.istore X23.here hx rfl (hb hby at_15) rfl (l' := #[.val (.int p1), .val (.long p2), .second, .val (.int p3), .val (.ref ad21), .val (.int ((1 : Int32) + (p1 &&& (1 : Int32)))), .unset, .unset, .unset, .unset, .unset, .unset, .unset, .unset, .unset, .unset]) rfl ?_
    show Steps p.tables e below (T23.setTop (mkF m 17 #[.val (.int p1), .val (.long p2), .second, .val (.int p3), .val (.ref ad21), .val (.int ((1 : Int32) + (p1 &&& (1 : Int32)))), .unset, .unset, .unset, .unset, .unset, .unset, .unset, .unset, .unset, .unset] [])) _
    rw [qw1] at k
    exact k
  obtain ⟨w2, qw2⟩ : ∃ z : Int32, z = ((3 : Int32) - w1) := ⟨_, rfl⟩
  refine OwnWp.step (U' := T23.setTop (mkF m 23 #[.val (.int p1), .val (.long p2), .second, .val (.int p3), .val (.ref ad21), .val (.int w1), .val (.int w2), .unset, .unset, .unset, .unset, .unset, .unset, .unset, .unset, .unset] [])) (fun t k => ?_) ?_
  · show Steps p.tables e below (T23.setTop (mkF m 17 #[.val (.int p1), .val (.long p2), .second, .val (.int p3), .val (.ref ad21), .val (.int w1), .unset, .unset, .unset, .unset, .unset, .unset, .unset, .unset, .unset, .unset] [])) _
    refine XT.iconstV X23.here hx rfl (3 : Int32) (hb hby at_17) rfl ?_
    show Steps p.tables e below (T23.setTop (mkF m 18 #[.val (.int p1), .val (.long p2), .second, .val (.int p3), .val (.ref ad21), .val (.int w1), .unset, .unset, .unset, .unset, .unset, .unset, .unset, .unset, .unset, .unset] [(.int (3 : Int32))])) _
    refine XS.iload X23.here hx rfl (hb hby at_18) rfl ?_
    show Steps p.tables e below (T23.setTop (mkF m 20 #[.val (.int p1), .val (.long p2), .second, .val (.int p3), .val (.ref ad21), .val (.int w1), .unset, .unset, .unset, .unset, .unset, .unset, .unset, .unset, .unset, .unset] [(.int w1), (.int (3 : Int32))])) _
    refine XS.isub X23.here hx rfl (hb hby at_20) rfl ?_
    show Steps p.tables e below (T23.setTop (mkF m 21 #[.val (.int p1), .val (.long p2), .second, .val (.int p3), .val (.ref ad21), .val (.int w1), .unset, .unset, .unset, .unset, .unset, .unset, .unset, .unset, .unset, .unset] [(.int ((3 : Int32) - w1))])) _
    refine XS.istore X23.here hx rfl (hb hby at_21) rfl (l' := #[.val (.int p1), .val (.long p2), .second, .val (.int p3), .val (.ref ad21), .val (.int w1), .val (.int ((3 : Int32) - w1)), .unset, .unset, .unset, .unset, .unset, .unset, .unset, .unset, .unset]) rfl ?_
    show Steps p.tables e below (T23.setTop (mkF m 23 #[.val (.int p1), .val (.long p2), .second, .val (.int p3), .val (.ref ad21), .val (.int w1), .val (.int ((3 : Int32) - w1)), .unset, .unset, .unset, .unset, .unset, .unset, .unset, .unset, .unset] [])) _
    rw [qw2] at k
    exact k
  refine OwnWp.step (U' := T23.setTop (mkF m 32 #[.val (.int p1), .val (.long p2), .second, .val (.int p3), .val (.ref ad21), .val (.int w1), .val (.int w2), .val (.int (1 : Int32)), .val (.long (0 : Int64)), .second, .unset, .unset, .unset, .unset, .unset, .unset] [(.int (p1 &&& (2 : Int32)))])) (fun t k => ?_) ?_
  · show Steps p.tables e below (T23.setTop (mkF m 23 #[.val (.int p1), .val (.long p2), .second, .val (.int p3), .val (.ref ad21), .val (.int w1), .val (.int w2), .unset, .unset, .unset, .unset, .unset, .unset, .unset, .unset, .unset] [])) _
    refine XT.iconstV X23.here hx rfl (1 : Int32) (hb hby at_23) rfl ?_
    show Steps p.tables e below (T23.setTop (mkF m 24 #[.val (.int p1), .val (.long p2), .second, .val (.int p3), .val (.ref ad21), .val (.int w1), .val (.int w2), .unset, .unset, .unset, .unset, .unset, .unset, .unset, .unset, .unset] [(.int (1 : Int32))])) _
    refine XS.istore X23.here hx rfl (hb hby at_24) rfl (l' := #[.val (.int p1), .val (.long p2), .second, .val (.int p3), .val (.ref ad21), .val (.int w1), .val (.int w2), .val (.int (1 : Int32)), .unset, .unset, .unset, .unset, .unset, .unset, .unset, .unset]) rfl ?_
    show Steps p.tables e below (T23.setTop (mkF m 26 #[.val (.int p1), .val (.long p2), .second, .val (.int p3), .val (.ref ad21), .val (.int w1), .val (.int w2), .val (.int (1 : Int32)), .unset, .unset, .unset, .unset, .unset, .unset, .unset, .unset] [])) _
    refine XT.lconstV X23.here hx rfl (0 : Int64) (hb hby at_26) rfl ?_
    show Steps p.tables e below (T23.setTop (mkF m 27 #[.val (.int p1), .val (.long p2), .second, .val (.int p3), .val (.ref ad21), .val (.int w1), .val (.int w2), .val (.int (1 : Int32)), .unset, .unset, .unset, .unset, .unset, .unset, .unset, .unset] [(.long (0 : Int64))])) _
    refine XT.lstore X23.here hx rfl (hb hby at_27) rfl (l' := #[.val (.int p1), .val (.long p2), .second, .val (.int p3), .val (.ref ad21), .val (.int w1), .val (.int w2), .val (.int (1 : Int32)), .val (.long (0 : Int64)), .second, .unset, .unset, .unset, .unset, .unset, .unset]) rfl ?_
    show Steps p.tables e below (T23.setTop (mkF m 29 #[.val (.int p1), .val (.long p2), .second, .val (.int p3), .val (.ref ad21), .val (.int w1), .val (.int w2), .val (.int (1 : Int32)), .val (.long (0 : Int64)), .second, .unset, .unset, .unset, .unset, .unset, .unset] [])) _
    refine XS.iloadN X23.here hx rfl (hb hby at_29) rfl ?_
    show Steps p.tables e below (T23.setTop (mkF m 30 #[.val (.int p1), .val (.long p2), .second, .val (.int p3), .val (.ref ad21), .val (.int w1), .val (.int w2), .val (.int (1 : Int32)), .val (.long (0 : Int64)), .second, .unset, .unset, .unset, .unset, .unset, .unset] [(.int p1)])) _
    refine XT.iconstV X23.here hx rfl (2 : Int32) (hb hby at_30) rfl ?_
    show Steps p.tables e below (T23.setTop (mkF m 31 #[.val (.int p1), .val (.long p2), .second, .val (.int p3), .val (.ref ad21), .val (.int w1), .val (.int w2), .val (.int (1 : Int32)), .val (.long (0 : Int64)), .second, .unset, .unset, .unset, .unset, .unset, .unset] [(.int (2 : Int32)), (.int p1)])) _
    refine XS.iand X23.here hx rfl (hb hby at_31) rfl ?_
    show Steps p.tables e below (T23.setTop (mkF m 32 #[.val (.int p1), .val (.long p2), .second, .val (.int p3), .val (.ref ad21), .val (.int w1), .val (.int w2), .val (.int (1 : Int32)), .val (.long (0 : Int64)), .second, .unset, .unset, .unset, .unset, .unset, .unset] [(.int (p1 &&& (2 : Int32)))])) _
    exact k
  obtain ⟨ht, ho, hne⟩ := own_types p1 w1 w2 qw1 qw2
  have J1 : ∀ (T26 : State) (h26 : Heap) (L26 : List Loc) (c1 : Int64) (f1 : Int → Int64) (X26 : Stand p l e room_1 s m #[(.int p1), (.long p2), (.int p3)] below meth c T26 L26 (0 + 1 + 1) (0 + 1 + 2)) (e26 : T26.heap = h26) (N26 : Fr n0 L26) (Z26 : n0 ≤ h26.size) (f27 : Exa Z h26 ad21 "com/example/tynemouth/tynemouth/control/PoolOccupancy") (f28 : Fld Z h26 ad21 "com/example/tynemouth/tynemouth/control/PoolOccupancy" "present" "[J" (.ref ab23)) (f29 : OwnA Z h26 ab23 .long (2 : Int32) (fun i => .long (f1 i))) (hc1 : 0 ≤ c1.toInt ∧ c1.toInt ≤ 1) (hx1 : f1 (w1 - (1 : Int32)).toInt = c1) (hy1 : f1 (w2 - (1 : Int32)).toInt = 0), OwnWp p e below s room_1.cells room_1.slots (Q0 Z p1 p2 p3  h0 n0) (T26.setTop (mkF m 56 #[.val (.int p1), .val (.long p2), .second, .val (.int p3), .val (.ref ad21), .val (.int w1), .val (.int w2), .val (.int (1 : Int32)), .val (.long c1), .second, .unset, .unset, .unset, .unset, .unset, .unset] [])) := by
    intro T26 h26 L26 c1 f1 X26 e26 N26 Z26 f27 f28 f29 hc1 hx1 hy1
    refine OwnWp.step (U' := T26.setTop (mkF m 59 #[.val (.int p1), .val (.long p2), .second, .val (.int p3), .val (.ref ad21), .val (.int w1), .val (.int w2), .val (.int (1 : Int32)), .val (.long c1), .second, .unset, .unset, .unset, .unset, .unset, .unset] [(.int (p1 &&& (4 : Int32)))])) (fun t k => ?_) ?_
    · show Steps p.tables e below (T26.setTop (mkF m 56 #[.val (.int p1), .val (.long p2), .second, .val (.int p3), .val (.ref ad21), .val (.int w1), .val (.int w2), .val (.int (1 : Int32)), .val (.long c1), .second, .unset, .unset, .unset, .unset, .unset, .unset] [])) _
      refine XS.iloadN X26.here hx rfl (hb hby at_56) rfl ?_
      show Steps p.tables e below (T26.setTop (mkF m 57 #[.val (.int p1), .val (.long p2), .second, .val (.int p3), .val (.ref ad21), .val (.int w1), .val (.int w2), .val (.int (1 : Int32)), .val (.long c1), .second, .unset, .unset, .unset, .unset, .unset, .unset] [(.int p1)])) _
      refine XT.iconstV X26.here hx rfl (4 : Int32) (hb hby at_57) rfl ?_
      show Steps p.tables e below (T26.setTop (mkF m 58 #[.val (.int p1), .val (.long p2), .second, .val (.int p3), .val (.ref ad21), .val (.int w1), .val (.int w2), .val (.int (1 : Int32)), .val (.long c1), .second, .unset, .unset, .unset, .unset, .unset, .unset] [(.int (4 : Int32)), (.int p1)])) _
      refine XS.iand X26.here hx rfl (hb hby at_58) rfl ?_
      show Steps p.tables e below (T26.setTop (mkF m 59 #[.val (.int p1), .val (.long p2), .second, .val (.int p3), .val (.ref ad21), .val (.int w1), .val (.int w2), .val (.int (1 : Int32)), .val (.long c1), .second, .unset, .unset, .unset, .unset, .unset, .unset] [(.int (p1 &&& (4 : Int32)))])) _
      exact k
    have J2 : ∀ (T30 : State) (h30 : Heap) (L30 : List Loc) (c2 : Int64) (f2 : Int → Int64) (X30 : Stand p l e room_1 s m #[(.int p1), (.long p2), (.int p3)] below meth c T30 L30 (0 + 1 + 1) (0 + 1 + 2)) (e30 : T30.heap = h30) (N30 : Fr n0 L30) (Z30 : n0 ≤ h30.size) (f31 : Exa Z h30 ad21 "com/example/tynemouth/tynemouth/control/PoolOccupancy") (f32 : Fld Z h30 ad21 "com/example/tynemouth/tynemouth/control/PoolOccupancy" "present" "[J" (.ref ab23)) (f33 : OwnA Z h30 ab23 .long (2 : Int32) (fun i => .long (f2 i))) (hc2 : 0 ≤ c2.toInt ∧ c2.toInt ≤ 2) (hx2 : f2 (w1 - (1 : Int32)).toInt = c2) (hy2 : f2 (w2 - (1 : Int32)).toInt = 0), OwnWp p e below s room_1.cells room_1.slots (Q0 Z p1 p2 p3  h0 n0) (T30.setTop (mkF m 83 #[.val (.int p1), .val (.long p2), .second, .val (.int p3), .val (.ref ad21), .val (.int w1), .val (.int w2), .val (.int (1 : Int32)), .val (.long c2), .second, .unset, .unset, .unset, .unset, .unset, .unset] [])) := by
      intro T30 h30 L30 c2 f2 X30 e30 N30 Z30 f31 f32 f33 hc2 hx2 hy2
      refine OwnWp.step (U' := T30.setTop (mkF m 89 #[.val (.int p1), .val (.long p2), .second, .val (.int p3), .val (.ref ad21), .val (.int w1), .val (.int w2), .val (.int (1 : Int32)), .val (.long c2), .second, .val (.long (0 : Int64)), .second, .unset, .unset, .unset, .unset] [(.int (p3 &&& (1 : Int32)))])) (fun t k => ?_) ?_
      · show Steps p.tables e below (T30.setTop (mkF m 83 #[.val (.int p1), .val (.long p2), .second, .val (.int p3), .val (.ref ad21), .val (.int w1), .val (.int w2), .val (.int (1 : Int32)), .val (.long c2), .second, .unset, .unset, .unset, .unset, .unset, .unset] [])) _
        refine XT.lconstV X30.here hx rfl (0 : Int64) (hb hby at_83) rfl ?_
        show Steps p.tables e below (T30.setTop (mkF m 84 #[.val (.int p1), .val (.long p2), .second, .val (.int p3), .val (.ref ad21), .val (.int w1), .val (.int w2), .val (.int (1 : Int32)), .val (.long c2), .second, .unset, .unset, .unset, .unset, .unset, .unset] [(.long (0 : Int64))])) _
        refine XT.lstore X30.here hx rfl (hb hby at_84) rfl (l' := #[.val (.int p1), .val (.long p2), .second, .val (.int p3), .val (.ref ad21), .val (.int w1), .val (.int w2), .val (.int (1 : Int32)), .val (.long c2), .second, .val (.long (0 : Int64)), .second, .unset, .unset, .unset, .unset]) rfl ?_
        show Steps p.tables e below (T30.setTop (mkF m 86 #[.val (.int p1), .val (.long p2), .second, .val (.int p3), .val (.ref ad21), .val (.int w1), .val (.int w2), .val (.int (1 : Int32)), .val (.long c2), .second, .val (.long (0 : Int64)), .second, .unset, .unset, .unset, .unset] [])) _
        refine XS.iloadN X30.here hx rfl (hb hby at_86) rfl ?_
        show Steps p.tables e below (T30.setTop (mkF m 87 #[.val (.int p1), .val (.long p2), .second, .val (.int p3), .val (.ref ad21), .val (.int w1), .val (.int w2), .val (.int (1 : Int32)), .val (.long c2), .second, .val (.long (0 : Int64)), .second, .unset, .unset, .unset, .unset] [(.int p3)])) _
        refine XT.iconstV X30.here hx rfl (1 : Int32) (hb hby at_87) rfl ?_
        show Steps p.tables e below (T30.setTop (mkF m 88 #[.val (.int p1), .val (.long p2), .second, .val (.int p3), .val (.ref ad21), .val (.int w1), .val (.int w2), .val (.int (1 : Int32)), .val (.long c2), .second, .val (.long (0 : Int64)), .second, .unset, .unset, .unset, .unset] [(.int (1 : Int32)), (.int p3)])) _
        refine XS.iand X30.here hx rfl (hb hby at_88) rfl ?_
        show Steps p.tables e below (T30.setTop (mkF m 89 #[.val (.int p1), .val (.long p2), .second, .val (.int p3), .val (.ref ad21), .val (.int w1), .val (.int w2), .val (.int (1 : Int32)), .val (.long c2), .second, .val (.long (0 : Int64)), .second, .unset, .unset, .unset, .unset] [(.int (p3 &&& (1 : Int32)))])) _
        exact k
      have J3 : ∀ (T34 : State) (h34 : Heap) (L34 : List Loc) (c3 : Int64) (f3 : Int → Int64) (X34 : Stand p l e room_1 s m #[(.int p1), (.long p2), (.int p3)] below meth c T34 L34 (0 + 1 + 1) (0 + 1 + 2)) (e34 : T34.heap = h34) (N34 : Fr n0 L34) (Z34 : n0 ≤ h34.size) (f35 : Exa Z h34 ad21 "com/example/tynemouth/tynemouth/control/PoolOccupancy") (f36 : Fld Z h34 ad21 "com/example/tynemouth/tynemouth/control/PoolOccupancy" "present" "[J" (.ref ab23)) (f37 : OwnA Z h34 ab23 .long (2 : Int32) (fun i => .long (f3 i))) (hc3 : 0 ≤ c3.toInt ∧ c3.toInt ≤ 1) (hx3 : f3 (w2 - (1 : Int32)).toInt = c3) (hy3 : f3 (w1 - (1 : Int32)).toInt = c2), OwnWp p e below s room_1.cells room_1.slots (Q0 Z p1 p2 p3  h0 n0) (T34.setTop (mkF m 113 #[.val (.int p1), .val (.long p2), .second, .val (.int p3), .val (.ref ad21), .val (.int w1), .val (.int w2), .val (.int (1 : Int32)), .val (.long c2), .second, .val (.long c3), .second, .unset, .unset, .unset, .unset] [])) := by
        intro T34 h34 L34 c3 f3 X34 e34 N34 Z34 f35 f36 f37 hc3 hx3 hy3
        refine OwnWp.step (U' := T34.setTop (mkF m 118 #[.val (.int p1), .val (.long p2), .second, .val (.int p3), .val (.ref ad21), .val (.int w1), .val (.int w2), .val (.int (1 : Int32)), .val (.long c2), .second, .val (.long c3), .second, .unset, .unset, .unset, .unset] [(.long p2), (.int w1), (.ref ad21)])) (fun t k => ?_) ?_
        · show Steps p.tables e below (T34.setTop (mkF m 113 #[.val (.int p1), .val (.long p2), .second, .val (.int p3), .val (.ref ad21), .val (.int w1), .val (.int w2), .val (.int (1 : Int32)), .val (.long c2), .second, .val (.long c3), .second, .unset, .unset, .unset, .unset] [])) _
          refine XS.aload X34.here hx rfl (hb hby at_113) rfl rfl ?_
          show Steps p.tables e below (T34.setTop (mkF m 115 #[.val (.int p1), .val (.long p2), .second, .val (.int p3), .val (.ref ad21), .val (.int w1), .val (.int w2), .val (.int (1 : Int32)), .val (.long c2), .second, .val (.long c3), .second, .unset, .unset, .unset, .unset] [(.ref ad21)])) _
          refine XS.iload X34.here hx rfl (hb hby at_115) rfl ?_
          show Steps p.tables e below (T34.setTop (mkF m 117 #[.val (.int p1), .val (.long p2), .second, .val (.int p3), .val (.ref ad21), .val (.int w1), .val (.int w2), .val (.int (1 : Int32)), .val (.long c2), .second, .val (.long c3), .second, .unset, .unset, .unset, .unset] [(.int w1), (.ref ad21)])) _
          refine XT.lloadN X34.here hx rfl (hb hby at_117) rfl ?_
          show Steps p.tables e below (T34.setTop (mkF m 118 #[.val (.int p1), .val (.long p2), .second, .val (.int p3), .val (.ref ad21), .val (.int w1), .val (.int w2), .val (.int (1 : Int32)), .val (.long c2), .second, .val (.long c3), .second, .unset, .unset, .unset, .unset] [(.long p2), (.int w1), (.ref ad21)])) _
          exact k
        obtain ⟨cq38, kq38, qa38, qb38, qc38⟩ := isOf hZ e34 f35
        obtain ⟨_, _, ⟨T38, L38, k38, n38⟩, -, X38, ⟨Lc38, hQ38, l38, y38, z38⟩, st38⟩ := X34.virtualBack hx (y := (⟨"com/example/tynemouth/tynemouth/control/PoolOccupancy", "admitBelow", "(IJ)Z"⟩ : MethodName)) (z := (⟨"com/example/tynemouth/tynemouth/control/PoolOccupancy", "admitBelow", "(IJ)Z"⟩ : MethodName)) hown (mvT hZ (hw _ (List.mem_of_getElem? (i := 13) rfl))) (mvT hZ (hw _ (List.mem_of_getElem? (i := 14) rfl))) (notFace_of_selects (args := #[]) (mvT hZ (hw _ (List.mem_of_getElem? (i := 16) rfl)))) (mvT hZ (hw _ (List.mem_of_getElem? (i := 16) rfl))) (mvT hZ (hw _ (List.mem_of_getElem? (i := 15) rfl))) (by decide) (backOf (W := 0) (rm3 l Z a0 hw [] ad21 w1 p2 ab23 f3 h34 n0 Z34 bb23 nb23 f36 f37 ht.1 ht.2) hZ (hw _ (List.mem_of_getElem? (i := 17) rfl)) (hw _ (List.mem_of_getElem? (i := 2) rfl)) (by decide) (by decide)) qa38 qc38 (g := (mkF m 118 #[.val (.int p1), .val (.long p2), .second, .val (.int p3), .val (.ref ad21), .val (.int w1), .val (.int w2), .val (.int (1 : Int32)), .val (.long c2), .second, .val (.long c3), .second, .unset, .unset, .unset, .unset] [(.long p2), (.int w1), (.ref ad21)])) rfl (by rw [hml]; rfl) (Steps.refl _) (argsL := [(.int w1), (.long p2)]) (rest := []) (lenOf pd_3 rfl) rfl (by show 2 * 0 + _ ≤ _; exact Nat.le_of_eq rfl) (hb hby at_118) (fun _ _ => ⟨rfl, e34, (by dsimp only [Pt.cells]; decide), (by dsimp only [Pt.slots]; decide)⟩)
        dsimp only [Pt.U, Pt.locs, Pt.cells, Pt.slots] at X38 l38 y38 z38 st38 hQ38
        subst l38 y38 z38
        obtain ⟨rfl, Nc38, Kc38, gf38⟩ := hQ38
        have N38 := Fr.app N34 Nc38
        refine OwnWp.go st38 ?_
        have Z38 : n0 ≤ T38.heap.size := Nat.le_trans Z34 Kc38.1
        have f39 := Exa.keep f35 Kc38
        have f40 := Fld.keep f36 Kc38 (ninS nb23 nin0)
        show OwnWp p e below s _ _ _ (T38.setTop (mkF m 121 #[.val (.int p1), .val (.long p2), .second, .val (.int p3), .val (.ref ad21), .val (.int w1), .val (.int w2), .val (.int (1 : Int32)), .val (.long c2), .second, .val (.long c3), .second, .unset, .unset, .unset, .unset] [(.int (if f3 (w1 - (1 : Int32)).toInt < p2 then (1 : Int32) else (0 : Int32)))]))
        obtain ⟨w3, qw3⟩ : ∃ z : Int32, z = (if f3 (w1 - (1 : Int32)).toInt < p2 then (1 : Int32) else (0 : Int32)) := ⟨_, rfl⟩
        refine OwnWp.step (U' := T38.setTop (mkF m 123 #[.val (.int p1), .val (.long p2), .second, .val (.int p3), .val (.ref ad21), .val (.int w1), .val (.int w2), .val (.int (1 : Int32)), .val (.long c2), .second, .val (.long c3), .second, .val (.int w3), .unset, .unset, .unset] [])) (fun t k => ?_) ?_
        · show Steps p.tables e below (T38.setTop (mkF m 121 #[.val (.int p1), .val (.long p2), .second, .val (.int p3), .val (.ref ad21), .val (.int w1), .val (.int w2), .val (.int (1 : Int32)), .val (.long c2), .second, .val (.long c3), .second, .unset, .unset, .unset, .unset] [(.int (if f3 (w1 - (1 : Int32)).toInt < p2 then (1 : Int32) else (0 : Int32)))])) _
          refine XS.istore X38.here hx rfl (hb hby at_121) rfl (l' := #[.val (.int p1), .val (.long p2), .second, .val (.int p3), .val (.ref ad21), .val (.int w1), .val (.int w2), .val (.int (1 : Int32)), .val (.long c2), .second, .val (.long c3), .second, .val (.int (if f3 (w1 - (1 : Int32)).toInt < p2 then (1 : Int32) else (0 : Int32))), .unset, .unset, .unset]) rfl ?_
          show Steps p.tables e below (T38.setTop (mkF m 123 #[.val (.int p1), .val (.long p2), .second, .val (.int p3), .val (.ref ad21), .val (.int w1), .val (.int w2), .val (.int (1 : Int32)), .val (.long c2), .second, .val (.long c3), .second, .val (.int (if f3 (w1 - (1 : Int32)).toInt < p2 then (1 : Int32) else (0 : Int32))), .unset, .unset, .unset] [])) _
          rw [qw3] at k
          exact k
        refine OwnWp.step (U' := T38.setTop (mkF m 127 #[.val (.int p1), .val (.long p2), .second, .val (.int p3), .val (.ref ad21), .val (.int w1), .val (.int w2), .val (.int (1 : Int32)), .val (.long c2), .second, .val (.long c3), .second, .val (.int w3), .unset, .unset, .unset] [(.int (XT.cmpL c2 p2))])) (fun t k => ?_) ?_
        · show Steps p.tables e below (T38.setTop (mkF m 123 #[.val (.int p1), .val (.long p2), .second, .val (.int p3), .val (.ref ad21), .val (.int w1), .val (.int w2), .val (.int (1 : Int32)), .val (.long c2), .second, .val (.long c3), .second, .val (.int w3), .unset, .unset, .unset] [])) _
          refine XT.lload X38.here hx rfl (hb hby at_123) rfl ?_
          show Steps p.tables e below (T38.setTop (mkF m 125 #[.val (.int p1), .val (.long p2), .second, .val (.int p3), .val (.ref ad21), .val (.int w1), .val (.int w2), .val (.int (1 : Int32)), .val (.long c2), .second, .val (.long c3), .second, .val (.int w3), .unset, .unset, .unset] [(.long c2)])) _
          refine XT.lloadN X38.here hx rfl (hb hby at_125) rfl ?_
          show Steps p.tables e below (T38.setTop (mkF m 126 #[.val (.int p1), .val (.long p2), .second, .val (.int p3), .val (.ref ad21), .val (.int w1), .val (.int w2), .val (.int (1 : Int32)), .val (.long c2), .second, .val (.long c3), .second, .val (.int w3), .unset, .unset, .unset] [(.long p2), (.long c2)])) _
          refine XT.lcmp X38.here hx rfl (hb hby at_126) rfl ?_
          show Steps p.tables e below (T38.setTop (mkF m 127 #[.val (.int p1), .val (.long p2), .second, .val (.int p3), .val (.ref ad21), .val (.int w1), .val (.int w2), .val (.int (1 : Int32)), .val (.long c2), .second, .val (.long c3), .second, .val (.int w3), .unset, .unset, .unset] [(.int (XT.cmpL c2 p2))])) _
          exact k
        obtain ⟨w4, qw4⟩ : ∃ z : Int32, z = (if c2 < p2 then (1 : Int32) else (0 : Int32)) := ⟨_, rfl⟩
        refine OwnWp.step (U' := T38.setTop (mkF m 135 #[.val (.int p1), .val (.long p2), .second, .val (.int p3), .val (.ref ad21), .val (.int w1), .val (.int w2), .val (.int (1 : Int32)), .val (.long c2), .second, .val (.long c3), .second, .val (.int w3), .unset, .unset, .unset] [(.int w4)])) (fun t k => ?_) ?_
        · show Steps p.tables e below (T38.setTop (mkF m 127 #[.val (.int p1), .val (.long p2), .second, .val (.int p3), .val (.ref ad21), .val (.int w1), .val (.int w2), .val (.int (1 : Int32)), .val (.long c2), .second, .val (.long c3), .second, .val (.int w3), .unset, .unset, .unset] [(.int (XT.cmpL c2 p2))])) _
          by_cases c127_42 : c2 < p2
          · refine XS.ifNo X38.here hx rfl (hb hby at_127) rfl (XT.ll_ge_f c127_42) ?_
            show Steps p.tables e below (T38.setTop (mkF m 130 #[.val (.int p1), .val (.long p2), .second, .val (.int p3), .val (.ref ad21), .val (.int w1), .val (.int w2), .val (.int (1 : Int32)), .val (.long c2), .second, .val (.long c3), .second, .val (.int w3), .unset, .unset, .unset] [])) _
            refine XT.iconstV X38.here hx rfl (1 : Int32) (hb hby at_130) rfl ?_
            show Steps p.tables e below (T38.setTop (mkF m 131 #[.val (.int p1), .val (.long p2), .second, .val (.int p3), .val (.ref ad21), .val (.int w1), .val (.int w2), .val (.int (1 : Int32)), .val (.long c2), .second, .val (.long c3), .second, .val (.int w3), .unset, .unset, .unset] [(.int (1 : Int32))])) _
            refine XS.goto X38.here hx rfl (pc0 := 131) (pc' := 135) rfl (hb hby at_131) (by decide) (by decide) ?_
            show Steps p.tables e below (T38.setTop (mkF m 135 #[.val (.int p1), .val (.long p2), .second, .val (.int p3), .val (.ref ad21), .val (.int w1), .val (.int w2), .val (.int (1 : Int32)), .val (.long c2), .second, .val (.long c3), .second, .val (.int w3), .unset, .unset, .unset] [(.int (1 : Int32))])) _
            rw [show w4 = (1 : Int32) from by rw [qw4, if_pos c127_42]] at k
            exact k
          · refine XS.ifYes X38.here hx rfl (pc0 := 127) (pc' := 134) rfl (hb hby at_127) rfl (XT.ll_ge_t c127_42) (by decide) (by decide) ?_
            show Steps p.tables e below (T38.setTop (mkF m 134 #[.val (.int p1), .val (.long p2), .second, .val (.int p3), .val (.ref ad21), .val (.int w1), .val (.int w2), .val (.int (1 : Int32)), .val (.long c2), .second, .val (.long c3), .second, .val (.int w3), .unset, .unset, .unset] [])) _
            refine XT.iconstV X38.here hx rfl (0 : Int32) (hb hby at_134) rfl ?_
            show Steps p.tables e below (T38.setTop (mkF m 135 #[.val (.int p1), .val (.long p2), .second, .val (.int p3), .val (.ref ad21), .val (.int w1), .val (.int w2), .val (.int (1 : Int32)), .val (.long c2), .second, .val (.long c3), .second, .val (.int w3), .unset, .unset, .unset] [(.int (0 : Int32))])) _
            rw [show w4 = (0 : Int32) from by rw [qw4, if_neg c127_42]] at k
            exact k
        refine OwnWp.step (U' := T38.setTop (mkF m 139 #[.val (.int p1), .val (.long p2), .second, .val (.int p3), .val (.ref ad21), .val (.int w1), .val (.int w2), .val (.int (1 : Int32)), .val (.long c2), .second, .val (.long c3), .second, .val (.int w3), .val (.int w4), .unset, .unset] [(.int w4)])) (fun t k => ?_) ?_
        · show Steps p.tables e below (T38.setTop (mkF m 135 #[.val (.int p1), .val (.long p2), .second, .val (.int p3), .val (.ref ad21), .val (.int w1), .val (.int w2), .val (.int (1 : Int32)), .val (.long c2), .second, .val (.long c3), .second, .val (.int w3), .unset, .unset, .unset] [(.int w4)])) _
          refine XS.istore X38.here hx rfl (hb hby at_135) rfl (l' := #[.val (.int p1), .val (.long p2), .second, .val (.int p3), .val (.ref ad21), .val (.int w1), .val (.int w2), .val (.int (1 : Int32)), .val (.long c2), .second, .val (.long c3), .second, .val (.int w3), .val (.int w4), .unset, .unset]) rfl ?_
          show Steps p.tables e below (T38.setTop (mkF m 137 #[.val (.int p1), .val (.long p2), .second, .val (.int p3), .val (.ref ad21), .val (.int w1), .val (.int w2), .val (.int (1 : Int32)), .val (.long c2), .second, .val (.long c3), .second, .val (.int w3), .val (.int w4), .unset, .unset] [])) _
          refine XS.iload X38.here hx rfl (hb hby at_137) rfl ?_
          show Steps p.tables e below (T38.setTop (mkF m 139 #[.val (.int p1), .val (.long p2), .second, .val (.int p3), .val (.ref ad21), .val (.int w1), .val (.int w2), .val (.int (1 : Int32)), .val (.long c2), .second, .val (.long c3), .second, .val (.int w3), .val (.int w4), .unset, .unset] [(.int w4)])) _
          exact k
        obtain ⟨w5, qw5⟩ : ∃ z : Int64, z = (if w4 = (0 : Int32) then c2 else (c2 + (1 : Int64))) := ⟨_, rfl⟩
        refine OwnWp.step (U' := T38.setTop (mkF m 151 #[.val (.int p1), .val (.long p2), .second, .val (.int p3), .val (.ref ad21), .val (.int w1), .val (.int w2), .val (.int (1 : Int32)), .val (.long c2), .second, .val (.long c3), .second, .val (.int w3), .val (.int w4), .unset, .unset] [(.long w5)])) (fun t k => ?_) ?_
        · show Steps p.tables e below (T38.setTop (mkF m 139 #[.val (.int p1), .val (.long p2), .second, .val (.int p3), .val (.ref ad21), .val (.int w1), .val (.int w2), .val (.int (1 : Int32)), .val (.long c2), .second, .val (.long c3), .second, .val (.int w3), .val (.int w4), .unset, .unset] [(.int w4)])) _
          by_cases c139_43 : w4 = (0 : Int32)
          · refine XS.ifYes X38.here hx rfl (pc0 := 139) (pc' := 149) rfl (hb hby at_139) rfl (XT.i0_eq_t c139_43) (by decide) (by decide) ?_
            show Steps p.tables e below (T38.setTop (mkF m 149 #[.val (.int p1), .val (.long p2), .second, .val (.int p3), .val (.ref ad21), .val (.int w1), .val (.int w2), .val (.int (1 : Int32)), .val (.long c2), .second, .val (.long c3), .second, .val (.int w3), .val (.int w4), .unset, .unset] [])) _
            refine XT.lload X38.here hx rfl (hb hby at_149) rfl ?_
            show Steps p.tables e below (T38.setTop (mkF m 151 #[.val (.int p1), .val (.long p2), .second, .val (.int p3), .val (.ref ad21), .val (.int w1), .val (.int w2), .val (.int (1 : Int32)), .val (.long c2), .second, .val (.long c3), .second, .val (.int w3), .val (.int w4), .unset, .unset] [(.long c2)])) _
            rw [show w5 = c2 from by rw [qw5, if_pos c139_43]] at k
            exact k
          · refine XS.ifNo X38.here hx rfl (hb hby at_139) rfl (XT.i0_eq_f c139_43) ?_
            show Steps p.tables e below (T38.setTop (mkF m 142 #[.val (.int p1), .val (.long p2), .second, .val (.int p3), .val (.ref ad21), .val (.int w1), .val (.int w2), .val (.int (1 : Int32)), .val (.long c2), .second, .val (.long c3), .second, .val (.int w3), .val (.int w4), .unset, .unset] [])) _
            refine XT.lload X38.here hx rfl (hb hby at_142) rfl ?_
            show Steps p.tables e below (T38.setTop (mkF m 144 #[.val (.int p1), .val (.long p2), .second, .val (.int p3), .val (.ref ad21), .val (.int w1), .val (.int w2), .val (.int (1 : Int32)), .val (.long c2), .second, .val (.long c3), .second, .val (.int w3), .val (.int w4), .unset, .unset] [(.long c2)])) _
            refine XT.lconstV X38.here hx rfl (1 : Int64) (hb hby at_144) rfl ?_
            show Steps p.tables e below (T38.setTop (mkF m 145 #[.val (.int p1), .val (.long p2), .second, .val (.int p3), .val (.ref ad21), .val (.int w1), .val (.int w2), .val (.int (1 : Int32)), .val (.long c2), .second, .val (.long c3), .second, .val (.int w3), .val (.int w4), .unset, .unset] [(.long (1 : Int64)), (.long c2)])) _
            refine XT.ladd X38.here hx rfl (hb hby at_145) rfl ?_
            show Steps p.tables e below (T38.setTop (mkF m 146 #[.val (.int p1), .val (.long p2), .second, .val (.int p3), .val (.ref ad21), .val (.int w1), .val (.int w2), .val (.int (1 : Int32)), .val (.long c2), .second, .val (.long c3), .second, .val (.int w3), .val (.int w4), .unset, .unset] [(.long (c2 + (1 : Int64)))])) _
            refine XS.goto X38.here hx rfl (pc0 := 146) (pc' := 151) rfl (hb hby at_146) (by decide) (by decide) ?_
            show Steps p.tables e below (T38.setTop (mkF m 151 #[.val (.int p1), .val (.long p2), .second, .val (.int p3), .val (.ref ad21), .val (.int w1), .val (.int w2), .val (.int (1 : Int32)), .val (.long c2), .second, .val (.long c3), .second, .val (.int w3), .val (.int w4), .unset, .unset] [(.long (c2 + (1 : Int64)))])) _
            rw [show w5 = (c2 + (1 : Int64)) from by rw [qw5, if_neg c139_43]] at k
            exact k
        refine OwnWp.step (U' := T38.setTop (mkF m 159 #[.val (.int p1), .val (.long p2), .second, .val (.int p3), .val (.ref ad21), .val (.int w1), .val (.int w2), .val (.int (1 : Int32)), .val (.long c2), .second, .val (.long c3), .second, .val (.int w3), .val (.int w4), .val (.long w5), .second] [(.int w4), (.int w3), (.int (1 : Int32))])) (fun t k => ?_) ?_
        · show Steps p.tables e below (T38.setTop (mkF m 151 #[.val (.int p1), .val (.long p2), .second, .val (.int p3), .val (.ref ad21), .val (.int w1), .val (.int w2), .val (.int (1 : Int32)), .val (.long c2), .second, .val (.long c3), .second, .val (.int w3), .val (.int w4), .unset, .unset] [(.long w5)])) _
          refine XT.lstore X38.here hx rfl (hb hby at_151) rfl (l' := #[.val (.int p1), .val (.long p2), .second, .val (.int p3), .val (.ref ad21), .val (.int w1), .val (.int w2), .val (.int (1 : Int32)), .val (.long c2), .second, .val (.long c3), .second, .val (.int w3), .val (.int w4), .val (.long w5), .second]) rfl ?_
          show Steps p.tables e below (T38.setTop (mkF m 153 #[.val (.int p1), .val (.long p2), .second, .val (.int p3), .val (.ref ad21), .val (.int w1), .val (.int w2), .val (.int (1 : Int32)), .val (.long c2), .second, .val (.long c3), .second, .val (.int w3), .val (.int w4), .val (.long w5), .second] [])) _
          refine XS.iload X38.here hx rfl (hb hby at_153) rfl ?_
          show Steps p.tables e below (T38.setTop (mkF m 155 #[.val (.int p1), .val (.long p2), .second, .val (.int p3), .val (.ref ad21), .val (.int w1), .val (.int w2), .val (.int (1 : Int32)), .val (.long c2), .second, .val (.long c3), .second, .val (.int w3), .val (.int w4), .val (.long w5), .second] [(.int (1 : Int32))])) _
          refine XS.iload X38.here hx rfl (hb hby at_155) rfl ?_
          show Steps p.tables e below (T38.setTop (mkF m 157 #[.val (.int p1), .val (.long p2), .second, .val (.int p3), .val (.ref ad21), .val (.int w1), .val (.int w2), .val (.int (1 : Int32)), .val (.long c2), .second, .val (.long c3), .second, .val (.int w3), .val (.int w4), .val (.long w5), .second] [(.int w3), (.int (1 : Int32))])) _
          refine XS.iload X38.here hx rfl (hb hby at_157) rfl ?_
          show Steps p.tables e below (T38.setTop (mkF m 159 #[.val (.int p1), .val (.long p2), .second, .val (.int p3), .val (.ref ad21), .val (.int w1), .val (.int w2), .val (.int (1 : Int32)), .val (.long c2), .second, .val (.long c3), .second, .val (.int w3), .val (.int w4), .val (.long w5), .second] [(.int w4), (.int w3), (.int (1 : Int32))])) _
          exact k
        obtain ⟨w6, qw6⟩ : ∃ z : Int32, z = (if w3 = w4 then (1 : Int32) else (0 : Int32)) := ⟨_, rfl⟩
        refine OwnWp.step (U' := T38.setTop (mkF m 167 #[.val (.int p1), .val (.long p2), .second, .val (.int p3), .val (.ref ad21), .val (.int w1), .val (.int w2), .val (.int (1 : Int32)), .val (.long c2), .second, .val (.long c3), .second, .val (.int w3), .val (.int w4), .val (.long w5), .second] [(.int w6), (.int (1 : Int32))])) (fun t k => ?_) ?_
        · show Steps p.tables e below (T38.setTop (mkF m 159 #[.val (.int p1), .val (.long p2), .second, .val (.int p3), .val (.ref ad21), .val (.int w1), .val (.int w2), .val (.int (1 : Int32)), .val (.long c2), .second, .val (.long c3), .second, .val (.int w3), .val (.int w4), .val (.long w5), .second] [(.int w4), (.int w3), (.int (1 : Int32))])) _
          by_cases c159_44 : w3 = w4
          · refine XS.icmpNo X38.here hx rfl (hb hby at_159) rfl (XT.ii_ne_f c159_44) ?_
            show Steps p.tables e below (T38.setTop (mkF m 162 #[.val (.int p1), .val (.long p2), .second, .val (.int p3), .val (.ref ad21), .val (.int w1), .val (.int w2), .val (.int (1 : Int32)), .val (.long c2), .second, .val (.long c3), .second, .val (.int w3), .val (.int w4), .val (.long w5), .second] [(.int (1 : Int32))])) _
            refine XT.iconstV X38.here hx rfl (1 : Int32) (hb hby at_162) rfl ?_
            show Steps p.tables e below (T38.setTop (mkF m 163 #[.val (.int p1), .val (.long p2), .second, .val (.int p3), .val (.ref ad21), .val (.int w1), .val (.int w2), .val (.int (1 : Int32)), .val (.long c2), .second, .val (.long c3), .second, .val (.int w3), .val (.int w4), .val (.long w5), .second] [(.int (1 : Int32)), (.int (1 : Int32))])) _
            refine XS.goto X38.here hx rfl (pc0 := 163) (pc' := 167) rfl (hb hby at_163) (by decide) (by decide) ?_
            show Steps p.tables e below (T38.setTop (mkF m 167 #[.val (.int p1), .val (.long p2), .second, .val (.int p3), .val (.ref ad21), .val (.int w1), .val (.int w2), .val (.int (1 : Int32)), .val (.long c2), .second, .val (.long c3), .second, .val (.int w3), .val (.int w4), .val (.long w5), .second] [(.int (1 : Int32)), (.int (1 : Int32))])) _
            rw [show w6 = (1 : Int32) from by rw [qw6, if_pos c159_44]] at k
            exact k
          · refine XS.icmpYes X38.here hx rfl (pc0 := 159) (pc' := 166) rfl (hb hby at_159) rfl (XT.ii_ne_t c159_44) (by decide) (by decide) ?_
            show Steps p.tables e below (T38.setTop (mkF m 166 #[.val (.int p1), .val (.long p2), .second, .val (.int p3), .val (.ref ad21), .val (.int w1), .val (.int w2), .val (.int (1 : Int32)), .val (.long c2), .second, .val (.long c3), .second, .val (.int w3), .val (.int w4), .val (.long w5), .second] [(.int (1 : Int32))])) _
            refine XT.iconstV X38.here hx rfl (0 : Int32) (hb hby at_166) rfl ?_
            show Steps p.tables e below (T38.setTop (mkF m 167 #[.val (.int p1), .val (.long p2), .second, .val (.int p3), .val (.ref ad21), .val (.int w1), .val (.int w2), .val (.int (1 : Int32)), .val (.long c2), .second, .val (.long c3), .second, .val (.int w3), .val (.int w4), .val (.long w5), .second] [(.int (0 : Int32)), (.int (1 : Int32))])) _
            rw [show w6 = (0 : Int32) from by rw [qw6, if_neg c159_44]] at k
            exact k
        obtain ⟨w7, qw7⟩ : ∃ z : Int32, z = ((1 : Int32) &&& w6) := ⟨_, rfl⟩
        refine OwnWp.step (U' := T38.setTop (mkF m 170 #[.val (.int p1), .val (.long p2), .second, .val (.int p3), .val (.ref ad21), .val (.int w1), .val (.int w2), .val (.int w7), .val (.long c2), .second, .val (.long c3), .second, .val (.int w3), .val (.int w4), .val (.long w5), .second] [])) (fun t k => ?_) ?_
        · show Steps p.tables e below (T38.setTop (mkF m 167 #[.val (.int p1), .val (.long p2), .second, .val (.int p3), .val (.ref ad21), .val (.int w1), .val (.int w2), .val (.int (1 : Int32)), .val (.long c2), .second, .val (.long c3), .second, .val (.int w3), .val (.int w4), .val (.long w5), .second] [(.int w6), (.int (1 : Int32))])) _
          refine XS.iand X38.here hx rfl (hb hby at_167) rfl ?_
          show Steps p.tables e below (T38.setTop (mkF m 168 #[.val (.int p1), .val (.long p2), .second, .val (.int p3), .val (.ref ad21), .val (.int w1), .val (.int w2), .val (.int (1 : Int32)), .val (.long c2), .second, .val (.long c3), .second, .val (.int w3), .val (.int w4), .val (.long w5), .second] [(.int ((1 : Int32) &&& w6))])) _
          refine XS.istore X38.here hx rfl (hb hby at_168) rfl (l' := #[.val (.int p1), .val (.long p2), .second, .val (.int p3), .val (.ref ad21), .val (.int w1), .val (.int w2), .val (.int ((1 : Int32) &&& w6)), .val (.long c2), .second, .val (.long c3), .second, .val (.int w3), .val (.int w4), .val (.long w5), .second]) rfl ?_
          show Steps p.tables e below (T38.setTop (mkF m 170 #[.val (.int p1), .val (.long p2), .second, .val (.int p3), .val (.ref ad21), .val (.int w1), .val (.int w2), .val (.int ((1 : Int32) &&& w6)), .val (.long c2), .second, .val (.long c3), .second, .val (.int w3), .val (.int w4), .val (.long w5), .second] [])) _
          rw [qw7] at k
          exact k
        refine OwnWp.step (U' := T38.setTop (mkF m 178 #[.val (.int p1), .val (.long p2), .second, .val (.int p3), .val (.ref ad21), .val (.int w1), .val (.int w2), .val (.int w7), .val (.long c2), .second, .val (.long c3), .second, .val (.int w3), .val (.int w4), .val (.long w5), .second] [(.long w5), (.int w1), (.ref ad21), (.int w7)])) (fun t k => ?_) ?_
        · show Steps p.tables e below (T38.setTop (mkF m 170 #[.val (.int p1), .val (.long p2), .second, .val (.int p3), .val (.ref ad21), .val (.int w1), .val (.int w2), .val (.int w7), .val (.long c2), .second, .val (.long c3), .second, .val (.int w3), .val (.int w4), .val (.long w5), .second] [])) _
          refine XS.iload X38.here hx rfl (hb hby at_170) rfl ?_
          show Steps p.tables e below (T38.setTop (mkF m 172 #[.val (.int p1), .val (.long p2), .second, .val (.int p3), .val (.ref ad21), .val (.int w1), .val (.int w2), .val (.int w7), .val (.long c2), .second, .val (.long c3), .second, .val (.int w3), .val (.int w4), .val (.long w5), .second] [(.int w7)])) _
          refine XS.aload X38.here hx rfl (hb hby at_172) rfl rfl ?_
          show Steps p.tables e below (T38.setTop (mkF m 174 #[.val (.int p1), .val (.long p2), .second, .val (.int p3), .val (.ref ad21), .val (.int w1), .val (.int w2), .val (.int w7), .val (.long c2), .second, .val (.long c3), .second, .val (.int w3), .val (.int w4), .val (.long w5), .second] [(.ref ad21), (.int w7)])) _
          refine XS.iload X38.here hx rfl (hb hby at_174) rfl ?_
          show Steps p.tables e below (T38.setTop (mkF m 176 #[.val (.int p1), .val (.long p2), .second, .val (.int p3), .val (.ref ad21), .val (.int w1), .val (.int w2), .val (.int w7), .val (.long c2), .second, .val (.long c3), .second, .val (.int w3), .val (.int w4), .val (.long w5), .second] [(.int w1), (.ref ad21), (.int w7)])) _
          refine XT.lload X38.here hx rfl (hb hby at_176) rfl ?_
          show Steps p.tables e below (T38.setTop (mkF m 178 #[.val (.int p1), .val (.long p2), .second, .val (.int p3), .val (.ref ad21), .val (.int w1), .val (.int w2), .val (.int w7), .val (.long c2), .second, .val (.long c3), .second, .val (.int w3), .val (.int w4), .val (.long w5), .second] [(.long w5), (.int w1), (.ref ad21), (.int w7)])) _
          exact k
        obtain ⟨cq45, kq45, qa45, qb45, qc45⟩ := isOf hZ (rfl : T38.heap = T38.heap) f39
        obtain ⟨_, _, ⟨T45, L45, k45, n45⟩, -, X45, ⟨Lc45, hQ45, l45, y45, z45⟩, st45⟩ := X38.virtualBack hx (y := (⟨"com/example/tynemouth/tynemouth/control/PoolOccupancy", "admitBelow", "(IJ)Z"⟩ : MethodName)) (z := (⟨"com/example/tynemouth/tynemouth/control/PoolOccupancy", "admitBelow", "(IJ)Z"⟩ : MethodName)) hown (mvT hZ (hw _ (List.mem_of_getElem? (i := 13) rfl))) (mvT hZ (hw _ (List.mem_of_getElem? (i := 14) rfl))) (notFace_of_selects (args := #[]) (mvT hZ (hw _ (List.mem_of_getElem? (i := 16) rfl)))) (mvT hZ (hw _ (List.mem_of_getElem? (i := 16) rfl))) (mvT hZ (hw _ (List.mem_of_getElem? (i := 15) rfl))) (by decide) (backOf (W := 1) (rm3 l Z a0 hw [] ad21 w1 w5 ab23 (own_adm f3 (w1 - (1 : Int32)).toInt p2) T38.heap n0 Z38 bb23 nb23 f40 gf38 ht.1 ht.2) hZ (hw _ (List.mem_of_getElem? (i := 17) rfl)) (hw _ (List.mem_of_getElem? (i := 2) rfl)) (by decide) (by decide)) qa45 qc45 (g := (mkF m 178 #[.val (.int p1), .val (.long p2), .second, .val (.int p3), .val (.ref ad21), .val (.int w1), .val (.int w2), .val (.int w7), .val (.long c2), .second, .val (.long c3), .second, .val (.int w3), .val (.int w4), .val (.long w5), .second] [(.long w5), (.int w1), (.ref ad21), (.int w7)])) rfl (by rw [hml]; rfl) (Steps.refl _) (argsL := [(.int w1), (.long w5)]) (rest := [(.int w7)]) (lenOf pd_3 rfl) rfl (by show 2 * 0 + _ ≤ _; exact Nat.le_of_eq rfl) (hb hby at_178) (fun _ _ => ⟨rfl, (rfl : T38.heap = T38.heap), (by dsimp only [Pt.cells]; decide), (by dsimp only [Pt.slots]; decide)⟩)
        dsimp only [Pt.U, Pt.locs, Pt.cells, Pt.slots] at X45 l45 y45 z45 st45 hQ45
        subst l45 y45 z45
        obtain ⟨rfl, Nc45, Kc45, gf45⟩ := hQ45
        have N45 := Fr.app N38 Nc45
        refine OwnWp.go st45 ?_
        have Z45 : n0 ≤ T45.heap.size := Nat.le_trans Z38 Kc45.1
        have f46 := Exa.keep f39 Kc45
        have f47 := Fld.keep f40 Kc45 (ninS nb23 nin0)
        show OwnWp p e below s _ _ _ (T45.setTop (mkF m 181 #[.val (.int p1), .val (.long p2), .second, .val (.int p3), .val (.ref ad21), .val (.int w1), .val (.int w2), .val (.int w7), .val (.long c2), .second, .val (.long c3), .second, .val (.int w3), .val (.int w4), .val (.long w5), .second] [(.int (if (own_adm f3 (w1 - (1 : Int32)).toInt p2) (w1 - (1 : Int32)).toInt < w5 then (1 : Int32) else (0 : Int32))), (.int w7)]))
        obtain ⟨w8, qw8⟩ : ∃ z : Int32, z = (if (if (own_adm f3 (w1 - (1 : Int32)).toInt p2) (w1 - (1 : Int32)).toInt < w5 then (1 : Int32) else (0 : Int32)) = (0 : Int32) then (1 : Int32) else (0 : Int32)) := ⟨_, rfl⟩
        refine OwnWp.step (U' := T45.setTop (mkF m 189 #[.val (.int p1), .val (.long p2), .second, .val (.int p3), .val (.ref ad21), .val (.int w1), .val (.int w2), .val (.int w7), .val (.long c2), .second, .val (.long c3), .second, .val (.int w3), .val (.int w4), .val (.long w5), .second] [(.int w8), (.int w7)])) (fun t k => ?_) ?_
        · show Steps p.tables e below (T45.setTop (mkF m 181 #[.val (.int p1), .val (.long p2), .second, .val (.int p3), .val (.ref ad21), .val (.int w1), .val (.int w2), .val (.int w7), .val (.long c2), .second, .val (.long c3), .second, .val (.int w3), .val (.int w4), .val (.long w5), .second] [(.int (if (own_adm f3 (w1 - (1 : Int32)).toInt p2) (w1 - (1 : Int32)).toInt < w5 then (1 : Int32) else (0 : Int32))), (.int w7)])) _
          by_cases c181_49 : (if (own_adm f3 (w1 - (1 : Int32)).toInt p2) (w1 - (1 : Int32)).toInt < w5 then (1 : Int32) else (0 : Int32)) = (0 : Int32)
          · refine XS.ifNo X45.here hx rfl (hb hby at_181) rfl (XT.i0_ne_f c181_49) ?_
            show Steps p.tables e below (T45.setTop (mkF m 184 #[.val (.int p1), .val (.long p2), .second, .val (.int p3), .val (.ref ad21), .val (.int w1), .val (.int w2), .val (.int w7), .val (.long c2), .second, .val (.long c3), .second, .val (.int w3), .val (.int w4), .val (.long w5), .second] [(.int w7)])) _
            refine XT.iconstV X45.here hx rfl (1 : Int32) (hb hby at_184) rfl ?_
            show Steps p.tables e below (T45.setTop (mkF m 185 #[.val (.int p1), .val (.long p2), .second, .val (.int p3), .val (.ref ad21), .val (.int w1), .val (.int w2), .val (.int w7), .val (.long c2), .second, .val (.long c3), .second, .val (.int w3), .val (.int w4), .val (.long w5), .second] [(.int (1 : Int32)), (.int w7)])) _
            refine XS.goto X45.here hx rfl (pc0 := 185) (pc' := 189) rfl (hb hby at_185) (by decide) (by decide) ?_
            show Steps p.tables e below (T45.setTop (mkF m 189 #[.val (.int p1), .val (.long p2), .second, .val (.int p3), .val (.ref ad21), .val (.int w1), .val (.int w2), .val (.int w7), .val (.long c2), .second, .val (.long c3), .second, .val (.int w3), .val (.int w4), .val (.long w5), .second] [(.int (1 : Int32)), (.int w7)])) _
            rw [show w8 = (1 : Int32) from by rw [qw8, if_pos c181_49]] at k
            exact k
          · refine XS.ifYes X45.here hx rfl (pc0 := 181) (pc' := 188) rfl (hb hby at_181) rfl (XT.i0_ne_t c181_49) (by decide) (by decide) ?_
            show Steps p.tables e below (T45.setTop (mkF m 188 #[.val (.int p1), .val (.long p2), .second, .val (.int p3), .val (.ref ad21), .val (.int w1), .val (.int w2), .val (.int w7), .val (.long c2), .second, .val (.long c3), .second, .val (.int w3), .val (.int w4), .val (.long w5), .second] [(.int w7)])) _
            refine XT.iconstV X45.here hx rfl (0 : Int32) (hb hby at_188) rfl ?_
            show Steps p.tables e below (T45.setTop (mkF m 189 #[.val (.int p1), .val (.long p2), .second, .val (.int p3), .val (.ref ad21), .val (.int w1), .val (.int w2), .val (.int w7), .val (.long c2), .second, .val (.long c3), .second, .val (.int w3), .val (.int w4), .val (.long w5), .second] [(.int (0 : Int32)), (.int w7)])) _
            rw [show w8 = (0 : Int32) from by rw [qw8, if_neg c181_49]] at k
            exact k
        obtain ⟨w9, qw9⟩ : ∃ z : Int32, z = (w7 &&& w8) := ⟨_, rfl⟩
        refine OwnWp.step (U' := T45.setTop (mkF m 192 #[.val (.int p1), .val (.long p2), .second, .val (.int p3), .val (.ref ad21), .val (.int w1), .val (.int w2), .val (.int w9), .val (.long c2), .second, .val (.long c3), .second, .val (.int w3), .val (.int w4), .val (.long w5), .second] [])) (fun t k => ?_) ?_
        · show Steps p.tables e below (T45.setTop (mkF m 189 #[.val (.int p1), .val (.long p2), .second, .val (.int p3), .val (.ref ad21), .val (.int w1), .val (.int w2), .val (.int w7), .val (.long c2), .second, .val (.long c3), .second, .val (.int w3), .val (.int w4), .val (.long w5), .second] [(.int w8), (.int w7)])) _
          refine XS.iand X45.here hx rfl (hb hby at_189) rfl ?_
          show Steps p.tables e below (T45.setTop (mkF m 190 #[.val (.int p1), .val (.long p2), .second, .val (.int p3), .val (.ref ad21), .val (.int w1), .val (.int w2), .val (.int w7), .val (.long c2), .second, .val (.long c3), .second, .val (.int w3), .val (.int w4), .val (.long w5), .second] [(.int (w7 &&& w8))])) _
          refine XS.istore X45.here hx rfl (hb hby at_190) rfl (l' := #[.val (.int p1), .val (.long p2), .second, .val (.int p3), .val (.ref ad21), .val (.int w1), .val (.int w2), .val (.int (w7 &&& w8)), .val (.long c2), .second, .val (.long c3), .second, .val (.int w3), .val (.int w4), .val (.long w5), .second]) rfl ?_
          show Steps p.tables e below (T45.setTop (mkF m 192 #[.val (.int p1), .val (.long p2), .second, .val (.int p3), .val (.ref ad21), .val (.int w1), .val (.int w2), .val (.int (w7 &&& w8)), .val (.long c2), .second, .val (.long c3), .second, .val (.int w3), .val (.int w4), .val (.long w5), .second] [])) _
          rw [qw9] at k
          exact k
        refine OwnWp.step (U' := T45.setTop (mkF m 202 #[.val (.int p1), .val (.long p2), .second, .val (.int p3), .val (.ref ad21), .val (.int w1), .val (.int w2), .val (.int w9), .val (.long c2), .second, .val (.long c3), .second, .val (.int w3), .val (.int w4), .val (.long w5), .second] [(.long (w5 + (1 : Int64))), (.int w1), (.ref ad21), (.int w9)])) (fun t k => ?_) ?_
        · show Steps p.tables e below (T45.setTop (mkF m 192 #[.val (.int p1), .val (.long p2), .second, .val (.int p3), .val (.ref ad21), .val (.int w1), .val (.int w2), .val (.int w9), .val (.long c2), .second, .val (.long c3), .second, .val (.int w3), .val (.int w4), .val (.long w5), .second] [])) _
          refine XS.iload X45.here hx rfl (hb hby at_192) rfl ?_
          show Steps p.tables e below (T45.setTop (mkF m 194 #[.val (.int p1), .val (.long p2), .second, .val (.int p3), .val (.ref ad21), .val (.int w1), .val (.int w2), .val (.int w9), .val (.long c2), .second, .val (.long c3), .second, .val (.int w3), .val (.int w4), .val (.long w5), .second] [(.int w9)])) _
          refine XS.aload X45.here hx rfl (hb hby at_194) rfl rfl ?_
          show Steps p.tables e below (T45.setTop (mkF m 196 #[.val (.int p1), .val (.long p2), .second, .val (.int p3), .val (.ref ad21), .val (.int w1), .val (.int w2), .val (.int w9), .val (.long c2), .second, .val (.long c3), .second, .val (.int w3), .val (.int w4), .val (.long w5), .second] [(.ref ad21), (.int w9)])) _
          refine XS.iload X45.here hx rfl (hb hby at_196) rfl ?_
          show Steps p.tables e below (T45.setTop (mkF m 198 #[.val (.int p1), .val (.long p2), .second, .val (.int p3), .val (.ref ad21), .val (.int w1), .val (.int w2), .val (.int w9), .val (.long c2), .second, .val (.long c3), .second, .val (.int w3), .val (.int w4), .val (.long w5), .second] [(.int w1), (.ref ad21), (.int w9)])) _
          refine XT.lload X45.here hx rfl (hb hby at_198) rfl ?_
          show Steps p.tables e below (T45.setTop (mkF m 200 #[.val (.int p1), .val (.long p2), .second, .val (.int p3), .val (.ref ad21), .val (.int w1), .val (.int w2), .val (.int w9), .val (.long c2), .second, .val (.long c3), .second, .val (.int w3), .val (.int w4), .val (.long w5), .second] [(.long w5), (.int w1), (.ref ad21), (.int w9)])) _
          refine XT.lconstV X45.here hx rfl (1 : Int64) (hb hby at_200) rfl ?_
          show Steps p.tables e below (T45.setTop (mkF m 201 #[.val (.int p1), .val (.long p2), .second, .val (.int p3), .val (.ref ad21), .val (.int w1), .val (.int w2), .val (.int w9), .val (.long c2), .second, .val (.long c3), .second, .val (.int w3), .val (.int w4), .val (.long w5), .second] [(.long (1 : Int64)), (.long w5), (.int w1), (.ref ad21), (.int w9)])) _
          refine XT.ladd X45.here hx rfl (hb hby at_201) rfl ?_
          show Steps p.tables e below (T45.setTop (mkF m 202 #[.val (.int p1), .val (.long p2), .second, .val (.int p3), .val (.ref ad21), .val (.int w1), .val (.int w2), .val (.int w9), .val (.long c2), .second, .val (.long c3), .second, .val (.int w3), .val (.int w4), .val (.long w5), .second] [(.long (w5 + (1 : Int64))), (.int w1), (.ref ad21), (.int w9)])) _
          exact k
        obtain ⟨cq50, kq50, qa50, qb50, qc50⟩ := isOf hZ (rfl : T45.heap = T45.heap) f46
        obtain ⟨_, _, ⟨T50, L50, k50, n50⟩, -, X50, ⟨Lc50, hQ50, l50, y50, z50⟩, st50⟩ := X45.virtualBack hx (y := (⟨"com/example/tynemouth/tynemouth/control/PoolOccupancy", "admitBelow", "(IJ)Z"⟩ : MethodName)) (z := (⟨"com/example/tynemouth/tynemouth/control/PoolOccupancy", "admitBelow", "(IJ)Z"⟩ : MethodName)) hown (mvT hZ (hw _ (List.mem_of_getElem? (i := 13) rfl))) (mvT hZ (hw _ (List.mem_of_getElem? (i := 14) rfl))) (notFace_of_selects (args := #[]) (mvT hZ (hw _ (List.mem_of_getElem? (i := 16) rfl)))) (mvT hZ (hw _ (List.mem_of_getElem? (i := 16) rfl))) (mvT hZ (hw _ (List.mem_of_getElem? (i := 15) rfl))) (by decide) (backOf (W := 1) (rm3 l Z a0 hw [] ad21 w1 (w5 + (1 : Int64)) ab23 (own_adm (own_adm f3 (w1 - (1 : Int32)).toInt p2) (w1 - (1 : Int32)).toInt w5) T45.heap n0 Z45 bb23 nb23 f47 gf45 ht.1 ht.2) hZ (hw _ (List.mem_of_getElem? (i := 17) rfl)) (hw _ (List.mem_of_getElem? (i := 2) rfl)) (by decide) (by decide)) qa50 qc50 (g := (mkF m 202 #[.val (.int p1), .val (.long p2), .second, .val (.int p3), .val (.ref ad21), .val (.int w1), .val (.int w2), .val (.int w9), .val (.long c2), .second, .val (.long c3), .second, .val (.int w3), .val (.int w4), .val (.long w5), .second] [(.long (w5 + (1 : Int64))), (.int w1), (.ref ad21), (.int w9)])) rfl (by rw [hml]; rfl) (Steps.refl _) (argsL := [(.int w1), (.long (w5 + (1 : Int64)))]) (rest := [(.int w9)]) (lenOf pd_3 rfl) rfl (by show 2 * 0 + _ ≤ _; exact Nat.le_of_eq rfl) (hb hby at_202) (fun _ _ => ⟨rfl, (rfl : T45.heap = T45.heap), (by dsimp only [Pt.cells]; decide), (by dsimp only [Pt.slots]; decide)⟩)
        dsimp only [Pt.U, Pt.locs, Pt.cells, Pt.slots] at X50 l50 y50 z50 st50 hQ50
        subst l50 y50 z50
        obtain ⟨rfl, Nc50, Kc50, gf50⟩ := hQ50
        have N50 := Fr.app N45 Nc50
        refine OwnWp.go st50 ?_
        have Z50 : n0 ≤ T50.heap.size := Nat.le_trans Z45 Kc50.1
        have f51 := Exa.keep f46 Kc50
        have f52 := Fld.keep f47 Kc50 (ninS nb23 nin0)
        show OwnWp p e below s _ _ _ (T50.setTop (mkF m 205 #[.val (.int p1), .val (.long p2), .second, .val (.int p3), .val (.ref ad21), .val (.int w1), .val (.int w2), .val (.int w9), .val (.long c2), .second, .val (.long c3), .second, .val (.int w3), .val (.int w4), .val (.long w5), .second] [(.int (if (own_adm (own_adm f3 (w1 - (1 : Int32)).toInt p2) (w1 - (1 : Int32)).toInt w5) (w1 - (1 : Int32)).toInt < (w5 + (1 : Int64)) then (1 : Int32) else (0 : Int32))), (.int w9)]))
        obtain ⟨w10, qw10⟩ : ∃ z : Int32, z = (w9 &&& (if (own_adm (own_adm f3 (w1 - (1 : Int32)).toInt p2) (w1 - (1 : Int32)).toInt w5) (w1 - (1 : Int32)).toInt < (w5 + (1 : Int64)) then (1 : Int32) else (0 : Int32))) := ⟨_, rfl⟩
        refine OwnWp.step (U' := T50.setTop (mkF m 208 #[.val (.int p1), .val (.long p2), .second, .val (.int p3), .val (.ref ad21), .val (.int w1), .val (.int w2), .val (.int w10), .val (.long c2), .second, .val (.long c3), .second, .val (.int w3), .val (.int w4), .val (.long w5), .second] [])) (fun t k => ?_) ?_
        · show Steps p.tables e below (T50.setTop (mkF m 205 #[.val (.int p1), .val (.long p2), .second, .val (.int p3), .val (.ref ad21), .val (.int w1), .val (.int w2), .val (.int w9), .val (.long c2), .second, .val (.long c3), .second, .val (.int w3), .val (.int w4), .val (.long w5), .second] [(.int (if (own_adm (own_adm f3 (w1 - (1 : Int32)).toInt p2) (w1 - (1 : Int32)).toInt w5) (w1 - (1 : Int32)).toInt < (w5 + (1 : Int64)) then (1 : Int32) else (0 : Int32))), (.int w9)])) _
          refine XS.iand X50.here hx rfl (hb hby at_205) rfl ?_
          show Steps p.tables e below (T50.setTop (mkF m 206 #[.val (.int p1), .val (.long p2), .second, .val (.int p3), .val (.ref ad21), .val (.int w1), .val (.int w2), .val (.int w9), .val (.long c2), .second, .val (.long c3), .second, .val (.int w3), .val (.int w4), .val (.long w5), .second] [(.int (w9 &&& (if (own_adm (own_adm f3 (w1 - (1 : Int32)).toInt p2) (w1 - (1 : Int32)).toInt w5) (w1 - (1 : Int32)).toInt < (w5 + (1 : Int64)) then (1 : Int32) else (0 : Int32))))])) _
          refine XS.istore X50.here hx rfl (hb hby at_206) rfl (l' := #[.val (.int p1), .val (.long p2), .second, .val (.int p3), .val (.ref ad21), .val (.int w1), .val (.int w2), .val (.int (w9 &&& (if (own_adm (own_adm f3 (w1 - (1 : Int32)).toInt p2) (w1 - (1 : Int32)).toInt w5) (w1 - (1 : Int32)).toInt < (w5 + (1 : Int64)) then (1 : Int32) else (0 : Int32)))), .val (.long c2), .second, .val (.long c3), .second, .val (.int w3), .val (.int w4), .val (.long w5), .second]) rfl ?_
          show Steps p.tables e below (T50.setTop (mkF m 208 #[.val (.int p1), .val (.long p2), .second, .val (.int p3), .val (.ref ad21), .val (.int w1), .val (.int w2), .val (.int (w9 &&& (if (own_adm (own_adm f3 (w1 - (1 : Int32)).toInt p2) (w1 - (1 : Int32)).toInt w5) (w1 - (1 : Int32)).toInt < (w5 + (1 : Int64)) then (1 : Int32) else (0 : Int32)))), .val (.long c2), .second, .val (.long c3), .second, .val (.int w3), .val (.int w4), .val (.long w5), .second] [])) _
          rw [qw10] at k
          exact k
        refine OwnWp.step (U' := T50.setTop (mkF m 216 #[.val (.int p1), .val (.long p2), .second, .val (.int p3), .val (.ref ad21), .val (.int w1), .val (.int w2), .val (.int w10), .val (.long c2), .second, .val (.long c3), .second, .val (.int w3), .val (.int w4), .val (.long w5), .second] [(.long c3), (.int w2), (.ref ad21), (.int w10)])) (fun t k => ?_) ?_
        · show Steps p.tables e below (T50.setTop (mkF m 208 #[.val (.int p1), .val (.long p2), .second, .val (.int p3), .val (.ref ad21), .val (.int w1), .val (.int w2), .val (.int w10), .val (.long c2), .second, .val (.long c3), .second, .val (.int w3), .val (.int w4), .val (.long w5), .second] [])) _
          refine XS.iload X50.here hx rfl (hb hby at_208) rfl ?_
          show Steps p.tables e below (T50.setTop (mkF m 210 #[.val (.int p1), .val (.long p2), .second, .val (.int p3), .val (.ref ad21), .val (.int w1), .val (.int w2), .val (.int w10), .val (.long c2), .second, .val (.long c3), .second, .val (.int w3), .val (.int w4), .val (.long w5), .second] [(.int w10)])) _
          refine XS.aload X50.here hx rfl (hb hby at_210) rfl rfl ?_
          show Steps p.tables e below (T50.setTop (mkF m 212 #[.val (.int p1), .val (.long p2), .second, .val (.int p3), .val (.ref ad21), .val (.int w1), .val (.int w2), .val (.int w10), .val (.long c2), .second, .val (.long c3), .second, .val (.int w3), .val (.int w4), .val (.long w5), .second] [(.ref ad21), (.int w10)])) _
          refine XS.iload X50.here hx rfl (hb hby at_212) rfl ?_
          show Steps p.tables e below (T50.setTop (mkF m 214 #[.val (.int p1), .val (.long p2), .second, .val (.int p3), .val (.ref ad21), .val (.int w1), .val (.int w2), .val (.int w10), .val (.long c2), .second, .val (.long c3), .second, .val (.int w3), .val (.int w4), .val (.long w5), .second] [(.int w2), (.ref ad21), (.int w10)])) _
          refine XT.lload X50.here hx rfl (hb hby at_214) rfl ?_
          show Steps p.tables e below (T50.setTop (mkF m 216 #[.val (.int p1), .val (.long p2), .second, .val (.int p3), .val (.ref ad21), .val (.int w1), .val (.int w2), .val (.int w10), .val (.long c2), .second, .val (.long c3), .second, .val (.int w3), .val (.int w4), .val (.long w5), .second] [(.long c3), (.int w2), (.ref ad21), (.int w10)])) _
          exact k
        obtain ⟨cq54, kq54, qa54, qb54, qc54⟩ := isOf hZ (rfl : T50.heap = T50.heap) f51
        obtain ⟨_, _, ⟨T54, L54, k54, n54⟩, -, X54, ⟨Lc54, hQ54, l54, y54, z54⟩, st54⟩ := X50.virtualBack hx (y := (⟨"com/example/tynemouth/tynemouth/control/PoolOccupancy", "admitBelow", "(IJ)Z"⟩ : MethodName)) (z := (⟨"com/example/tynemouth/tynemouth/control/PoolOccupancy", "admitBelow", "(IJ)Z"⟩ : MethodName)) hown (mvT hZ (hw _ (List.mem_of_getElem? (i := 13) rfl))) (mvT hZ (hw _ (List.mem_of_getElem? (i := 14) rfl))) (notFace_of_selects (args := #[]) (mvT hZ (hw _ (List.mem_of_getElem? (i := 16) rfl)))) (mvT hZ (hw _ (List.mem_of_getElem? (i := 16) rfl))) (mvT hZ (hw _ (List.mem_of_getElem? (i := 15) rfl))) (by decide) (backOf (W := 1) (rm3 l Z a0 hw [] ad21 w2 c3 ab23 (own_adm (own_adm (own_adm f3 (w1 - (1 : Int32)).toInt p2) (w1 - (1 : Int32)).toInt w5) (w1 - (1 : Int32)).toInt (w5 + (1 : Int64))) T50.heap n0 Z50 bb23 nb23 f52 gf50 ho.1 ho.2) hZ (hw _ (List.mem_of_getElem? (i := 17) rfl)) (hw _ (List.mem_of_getElem? (i := 2) rfl)) (by decide) (by decide)) qa54 qc54 (g := (mkF m 216 #[.val (.int p1), .val (.long p2), .second, .val (.int p3), .val (.ref ad21), .val (.int w1), .val (.int w2), .val (.int w10), .val (.long c2), .second, .val (.long c3), .second, .val (.int w3), .val (.int w4), .val (.long w5), .second] [(.long c3), (.int w2), (.ref ad21), (.int w10)])) rfl (by rw [hml]; rfl) (Steps.refl _) (argsL := [(.int w2), (.long c3)]) (rest := [(.int w10)]) (lenOf pd_3 rfl) rfl (by show 2 * 0 + _ ≤ _; exact Nat.le_of_eq rfl) (hb hby at_216) (fun _ _ => ⟨rfl, (rfl : T50.heap = T50.heap), (by dsimp only [Pt.cells]; decide), (by dsimp only [Pt.slots]; decide)⟩)
        dsimp only [Pt.U, Pt.locs, Pt.cells, Pt.slots] at X54 l54 y54 z54 st54 hQ54
        subst l54 y54 z54
        obtain ⟨rfl, Nc54, Kc54, gf54⟩ := hQ54
        have N54 := Fr.app N50 Nc54
        refine OwnWp.go st54 ?_
        have Z54 : n0 ≤ T54.heap.size := Nat.le_trans Z50 Kc54.1
        have f55 := Exa.keep f51 Kc54
        have f56 := Fld.keep f52 Kc54 (ninS nb23 nin0)
        show OwnWp p e below s _ _ _ (T54.setTop (mkF m 219 #[.val (.int p1), .val (.long p2), .second, .val (.int p3), .val (.ref ad21), .val (.int w1), .val (.int w2), .val (.int w10), .val (.long c2), .second, .val (.long c3), .second, .val (.int w3), .val (.int w4), .val (.long w5), .second] [(.int (if (own_adm (own_adm (own_adm f3 (w1 - (1 : Int32)).toInt p2) (w1 - (1 : Int32)).toInt w5) (w1 - (1 : Int32)).toInt (w5 + (1 : Int64))) (w2 - (1 : Int32)).toInt < c3 then (1 : Int32) else (0 : Int32))), (.int w10)]))
        obtain ⟨w11, qw11⟩ : ∃ z : Int32, z = (if (if (own_adm (own_adm (own_adm f3 (w1 - (1 : Int32)).toInt p2) (w1 - (1 : Int32)).toInt w5) (w1 - (1 : Int32)).toInt (w5 + (1 : Int64))) (w2 - (1 : Int32)).toInt < c3 then (1 : Int32) else (0 : Int32)) = (0 : Int32) then (1 : Int32) else (0 : Int32)) := ⟨_, rfl⟩
        refine OwnWp.step (U' := T54.setTop (mkF m 227 #[.val (.int p1), .val (.long p2), .second, .val (.int p3), .val (.ref ad21), .val (.int w1), .val (.int w2), .val (.int w10), .val (.long c2), .second, .val (.long c3), .second, .val (.int w3), .val (.int w4), .val (.long w5), .second] [(.int w11), (.int w10)])) (fun t k => ?_) ?_
        · show Steps p.tables e below (T54.setTop (mkF m 219 #[.val (.int p1), .val (.long p2), .second, .val (.int p3), .val (.ref ad21), .val (.int w1), .val (.int w2), .val (.int w10), .val (.long c2), .second, .val (.long c3), .second, .val (.int w3), .val (.int w4), .val (.long w5), .second] [(.int (if (own_adm (own_adm (own_adm f3 (w1 - (1 : Int32)).toInt p2) (w1 - (1 : Int32)).toInt w5) (w1 - (1 : Int32)).toInt (w5 + (1 : Int64))) (w2 - (1 : Int32)).toInt < c3 then (1 : Int32) else (0 : Int32))), (.int w10)])) _
          by_cases c219_58 : (if (own_adm (own_adm (own_adm f3 (w1 - (1 : Int32)).toInt p2) (w1 - (1 : Int32)).toInt w5) (w1 - (1 : Int32)).toInt (w5 + (1 : Int64))) (w2 - (1 : Int32)).toInt < c3 then (1 : Int32) else (0 : Int32)) = (0 : Int32)
          · refine XS.ifNo X54.here hx rfl (hb hby at_219) rfl (XT.i0_ne_f c219_58) ?_
            show Steps p.tables e below (T54.setTop (mkF m 222 #[.val (.int p1), .val (.long p2), .second, .val (.int p3), .val (.ref ad21), .val (.int w1), .val (.int w2), .val (.int w10), .val (.long c2), .second, .val (.long c3), .second, .val (.int w3), .val (.int w4), .val (.long w5), .second] [(.int w10)])) _
            refine XT.iconstV X54.here hx rfl (1 : Int32) (hb hby at_222) rfl ?_
            show Steps p.tables e below (T54.setTop (mkF m 223 #[.val (.int p1), .val (.long p2), .second, .val (.int p3), .val (.ref ad21), .val (.int w1), .val (.int w2), .val (.int w10), .val (.long c2), .second, .val (.long c3), .second, .val (.int w3), .val (.int w4), .val (.long w5), .second] [(.int (1 : Int32)), (.int w10)])) _
            refine XS.goto X54.here hx rfl (pc0 := 223) (pc' := 227) rfl (hb hby at_223) (by decide) (by decide) ?_
            show Steps p.tables e below (T54.setTop (mkF m 227 #[.val (.int p1), .val (.long p2), .second, .val (.int p3), .val (.ref ad21), .val (.int w1), .val (.int w2), .val (.int w10), .val (.long c2), .second, .val (.long c3), .second, .val (.int w3), .val (.int w4), .val (.long w5), .second] [(.int (1 : Int32)), (.int w10)])) _
            rw [show w11 = (1 : Int32) from by rw [qw11, if_pos c219_58]] at k
            exact k
          · refine XS.ifYes X54.here hx rfl (pc0 := 219) (pc' := 226) rfl (hb hby at_219) rfl (XT.i0_ne_t c219_58) (by decide) (by decide) ?_
            show Steps p.tables e below (T54.setTop (mkF m 226 #[.val (.int p1), .val (.long p2), .second, .val (.int p3), .val (.ref ad21), .val (.int w1), .val (.int w2), .val (.int w10), .val (.long c2), .second, .val (.long c3), .second, .val (.int w3), .val (.int w4), .val (.long w5), .second] [(.int w10)])) _
            refine XT.iconstV X54.here hx rfl (0 : Int32) (hb hby at_226) rfl ?_
            show Steps p.tables e below (T54.setTop (mkF m 227 #[.val (.int p1), .val (.long p2), .second, .val (.int p3), .val (.ref ad21), .val (.int w1), .val (.int w2), .val (.int w10), .val (.long c2), .second, .val (.long c3), .second, .val (.int w3), .val (.int w4), .val (.long w5), .second] [(.int (0 : Int32)), (.int w10)])) _
            rw [show w11 = (0 : Int32) from by rw [qw11, if_neg c219_58]] at k
            exact k
        obtain ⟨w12, qw12⟩ : ∃ z : Int32, z = (w10 &&& w11) := ⟨_, rfl⟩
        refine OwnWp.step (U' := T54.setTop (mkF m 230 #[.val (.int p1), .val (.long p2), .second, .val (.int p3), .val (.ref ad21), .val (.int w1), .val (.int w2), .val (.int w12), .val (.long c2), .second, .val (.long c3), .second, .val (.int w3), .val (.int w4), .val (.long w5), .second] [])) (fun t k => ?_) ?_
        · show Steps p.tables e below (T54.setTop (mkF m 227 #[.val (.int p1), .val (.long p2), .second, .val (.int p3), .val (.ref ad21), .val (.int w1), .val (.int w2), .val (.int w10), .val (.long c2), .second, .val (.long c3), .second, .val (.int w3), .val (.int w4), .val (.long w5), .second] [(.int w11), (.int w10)])) _
          refine XS.iand X54.here hx rfl (hb hby at_227) rfl ?_
          show Steps p.tables e below (T54.setTop (mkF m 228 #[.val (.int p1), .val (.long p2), .second, .val (.int p3), .val (.ref ad21), .val (.int w1), .val (.int w2), .val (.int w10), .val (.long c2), .second, .val (.long c3), .second, .val (.int w3), .val (.int w4), .val (.long w5), .second] [(.int (w10 &&& w11))])) _
          refine XS.istore X54.here hx rfl (hb hby at_228) rfl (l' := #[.val (.int p1), .val (.long p2), .second, .val (.int p3), .val (.ref ad21), .val (.int w1), .val (.int w2), .val (.int (w10 &&& w11)), .val (.long c2), .second, .val (.long c3), .second, .val (.int w3), .val (.int w4), .val (.long w5), .second]) rfl ?_
          show Steps p.tables e below (T54.setTop (mkF m 230 #[.val (.int p1), .val (.long p2), .second, .val (.int p3), .val (.ref ad21), .val (.int w1), .val (.int w2), .val (.int (w10 &&& w11)), .val (.long c2), .second, .val (.long c3), .second, .val (.int w3), .val (.int w4), .val (.long w5), .second] [])) _
          rw [qw12] at k
          exact k
        refine OwnWp.step (U' := T54.setTop (mkF m 240 #[.val (.int p1), .val (.long p2), .second, .val (.int p3), .val (.ref ad21), .val (.int w1), .val (.int w2), .val (.int w12), .val (.long c2), .second, .val (.long c3), .second, .val (.int w3), .val (.int w4), .val (.long w5), .second] [(.long (c3 + (1 : Int64))), (.int w2), (.ref ad21), (.int w12)])) (fun t k => ?_) ?_
        · show Steps p.tables e below (T54.setTop (mkF m 230 #[.val (.int p1), .val (.long p2), .second, .val (.int p3), .val (.ref ad21), .val (.int w1), .val (.int w2), .val (.int w12), .val (.long c2), .second, .val (.long c3), .second, .val (.int w3), .val (.int w4), .val (.long w5), .second] [])) _
          refine XS.iload X54.here hx rfl (hb hby at_230) rfl ?_
          show Steps p.tables e below (T54.setTop (mkF m 232 #[.val (.int p1), .val (.long p2), .second, .val (.int p3), .val (.ref ad21), .val (.int w1), .val (.int w2), .val (.int w12), .val (.long c2), .second, .val (.long c3), .second, .val (.int w3), .val (.int w4), .val (.long w5), .second] [(.int w12)])) _
          refine XS.aload X54.here hx rfl (hb hby at_232) rfl rfl ?_
          show Steps p.tables e below (T54.setTop (mkF m 234 #[.val (.int p1), .val (.long p2), .second, .val (.int p3), .val (.ref ad21), .val (.int w1), .val (.int w2), .val (.int w12), .val (.long c2), .second, .val (.long c3), .second, .val (.int w3), .val (.int w4), .val (.long w5), .second] [(.ref ad21), (.int w12)])) _
          refine XS.iload X54.here hx rfl (hb hby at_234) rfl ?_
          show Steps p.tables e below (T54.setTop (mkF m 236 #[.val (.int p1), .val (.long p2), .second, .val (.int p3), .val (.ref ad21), .val (.int w1), .val (.int w2), .val (.int w12), .val (.long c2), .second, .val (.long c3), .second, .val (.int w3), .val (.int w4), .val (.long w5), .second] [(.int w2), (.ref ad21), (.int w12)])) _
          refine XT.lload X54.here hx rfl (hb hby at_236) rfl ?_
          show Steps p.tables e below (T54.setTop (mkF m 238 #[.val (.int p1), .val (.long p2), .second, .val (.int p3), .val (.ref ad21), .val (.int w1), .val (.int w2), .val (.int w12), .val (.long c2), .second, .val (.long c3), .second, .val (.int w3), .val (.int w4), .val (.long w5), .second] [(.long c3), (.int w2), (.ref ad21), (.int w12)])) _
          refine XT.lconstV X54.here hx rfl (1 : Int64) (hb hby at_238) rfl ?_
          show Steps p.tables e below (T54.setTop (mkF m 239 #[.val (.int p1), .val (.long p2), .second, .val (.int p3), .val (.ref ad21), .val (.int w1), .val (.int w2), .val (.int w12), .val (.long c2), .second, .val (.long c3), .second, .val (.int w3), .val (.int w4), .val (.long w5), .second] [(.long (1 : Int64)), (.long c3), (.int w2), (.ref ad21), (.int w12)])) _
          refine XT.ladd X54.here hx rfl (hb hby at_239) rfl ?_
          show Steps p.tables e below (T54.setTop (mkF m 240 #[.val (.int p1), .val (.long p2), .second, .val (.int p3), .val (.ref ad21), .val (.int w1), .val (.int w2), .val (.int w12), .val (.long c2), .second, .val (.long c3), .second, .val (.int w3), .val (.int w4), .val (.long w5), .second] [(.long (c3 + (1 : Int64))), (.int w2), (.ref ad21), (.int w12)])) _
          exact k
        obtain ⟨cq59, kq59, qa59, qb59, qc59⟩ := isOf hZ (rfl : T54.heap = T54.heap) f55
        obtain ⟨_, _, ⟨T59, L59, k59, n59⟩, -, X59, ⟨Lc59, hQ59, l59, y59, z59⟩, st59⟩ := X54.virtualBack hx (y := (⟨"com/example/tynemouth/tynemouth/control/PoolOccupancy", "admitBelow", "(IJ)Z"⟩ : MethodName)) (z := (⟨"com/example/tynemouth/tynemouth/control/PoolOccupancy", "admitBelow", "(IJ)Z"⟩ : MethodName)) hown (mvT hZ (hw _ (List.mem_of_getElem? (i := 13) rfl))) (mvT hZ (hw _ (List.mem_of_getElem? (i := 14) rfl))) (notFace_of_selects (args := #[]) (mvT hZ (hw _ (List.mem_of_getElem? (i := 16) rfl)))) (mvT hZ (hw _ (List.mem_of_getElem? (i := 16) rfl))) (mvT hZ (hw _ (List.mem_of_getElem? (i := 15) rfl))) (by decide) (backOf (W := 1) (rm3 l Z a0 hw [] ad21 w2 (c3 + (1 : Int64)) ab23 (own_adm (own_adm (own_adm (own_adm f3 (w1 - (1 : Int32)).toInt p2) (w1 - (1 : Int32)).toInt w5) (w1 - (1 : Int32)).toInt (w5 + (1 : Int64))) (w2 - (1 : Int32)).toInt c3) T54.heap n0 Z54 bb23 nb23 f56 gf54 ho.1 ho.2) hZ (hw _ (List.mem_of_getElem? (i := 17) rfl)) (hw _ (List.mem_of_getElem? (i := 2) rfl)) (by decide) (by decide)) qa59 qc59 (g := (mkF m 240 #[.val (.int p1), .val (.long p2), .second, .val (.int p3), .val (.ref ad21), .val (.int w1), .val (.int w2), .val (.int w12), .val (.long c2), .second, .val (.long c3), .second, .val (.int w3), .val (.int w4), .val (.long w5), .second] [(.long (c3 + (1 : Int64))), (.int w2), (.ref ad21), (.int w12)])) rfl (by rw [hml]; rfl) (Steps.refl _) (argsL := [(.int w2), (.long (c3 + (1 : Int64)))]) (rest := [(.int w12)]) (lenOf pd_3 rfl) rfl (by show 2 * 0 + _ ≤ _; exact Nat.le_of_eq rfl) (hb hby at_240) (fun _ _ => ⟨rfl, (rfl : T54.heap = T54.heap), (by dsimp only [Pt.cells]; decide), (by dsimp only [Pt.slots]; decide)⟩)
        dsimp only [Pt.U, Pt.locs, Pt.cells, Pt.slots] at X59 l59 y59 z59 st59 hQ59
        subst l59 y59 z59
        obtain ⟨rfl, Nc59, Kc59, gf59⟩ := hQ59
        have N59 := Fr.app N54 Nc59
        refine OwnWp.go st59 ?_
        have Z59 : n0 ≤ T59.heap.size := Nat.le_trans Z54 Kc59.1
        have f60 := Exa.keep f55 Kc59
        have f61 := Fld.keep f56 Kc59 (ninS nb23 nin0)
        show OwnWp p e below s _ _ _ (T59.setTop (mkF m 243 #[.val (.int p1), .val (.long p2), .second, .val (.int p3), .val (.ref ad21), .val (.int w1), .val (.int w2), .val (.int w12), .val (.long c2), .second, .val (.long c3), .second, .val (.int w3), .val (.int w4), .val (.long w5), .second] [(.int (if (own_adm (own_adm (own_adm (own_adm f3 (w1 - (1 : Int32)).toInt p2) (w1 - (1 : Int32)).toInt w5) (w1 - (1 : Int32)).toInt (w5 + (1 : Int64))) (w2 - (1 : Int32)).toInt c3) (w2 - (1 : Int32)).toInt < (c3 + (1 : Int64)) then (1 : Int32) else (0 : Int32))), (.int w12)]))
        obtain ⟨w13, qw13⟩ : ∃ z : Int32, z = (w12 &&& (if (own_adm (own_adm (own_adm (own_adm f3 (w1 - (1 : Int32)).toInt p2) (w1 - (1 : Int32)).toInt w5) (w1 - (1 : Int32)).toInt (w5 + (1 : Int64))) (w2 - (1 : Int32)).toInt c3) (w2 - (1 : Int32)).toInt < (c3 + (1 : Int64)) then (1 : Int32) else (0 : Int32))) := ⟨_, rfl⟩
        refine OwnWp.step (U' := T59.setTop (mkF m 246 #[.val (.int p1), .val (.long p2), .second, .val (.int p3), .val (.ref ad21), .val (.int w1), .val (.int w2), .val (.int w13), .val (.long c2), .second, .val (.long c3), .second, .val (.int w3), .val (.int w4), .val (.long w5), .second] [])) (fun t k => ?_) ?_
        · show Steps p.tables e below (T59.setTop (mkF m 243 #[.val (.int p1), .val (.long p2), .second, .val (.int p3), .val (.ref ad21), .val (.int w1), .val (.int w2), .val (.int w12), .val (.long c2), .second, .val (.long c3), .second, .val (.int w3), .val (.int w4), .val (.long w5), .second] [(.int (if (own_adm (own_adm (own_adm (own_adm f3 (w1 - (1 : Int32)).toInt p2) (w1 - (1 : Int32)).toInt w5) (w1 - (1 : Int32)).toInt (w5 + (1 : Int64))) (w2 - (1 : Int32)).toInt c3) (w2 - (1 : Int32)).toInt < (c3 + (1 : Int64)) then (1 : Int32) else (0 : Int32))), (.int w12)])) _
          refine XS.iand X59.here hx rfl (hb hby at_243) rfl ?_
          show Steps p.tables e below (T59.setTop (mkF m 244 #[.val (.int p1), .val (.long p2), .second, .val (.int p3), .val (.ref ad21), .val (.int w1), .val (.int w2), .val (.int w12), .val (.long c2), .second, .val (.long c3), .second, .val (.int w3), .val (.int w4), .val (.long w5), .second] [(.int (w12 &&& (if (own_adm (own_adm (own_adm (own_adm f3 (w1 - (1 : Int32)).toInt p2) (w1 - (1 : Int32)).toInt w5) (w1 - (1 : Int32)).toInt (w5 + (1 : Int64))) (w2 - (1 : Int32)).toInt c3) (w2 - (1 : Int32)).toInt < (c3 + (1 : Int64)) then (1 : Int32) else (0 : Int32))))])) _
          refine XS.istore X59.here hx rfl (hb hby at_244) rfl (l' := #[.val (.int p1), .val (.long p2), .second, .val (.int p3), .val (.ref ad21), .val (.int w1), .val (.int w2), .val (.int (w12 &&& (if (own_adm (own_adm (own_adm (own_adm f3 (w1 - (1 : Int32)).toInt p2) (w1 - (1 : Int32)).toInt w5) (w1 - (1 : Int32)).toInt (w5 + (1 : Int64))) (w2 - (1 : Int32)).toInt c3) (w2 - (1 : Int32)).toInt < (c3 + (1 : Int64)) then (1 : Int32) else (0 : Int32)))), .val (.long c2), .second, .val (.long c3), .second, .val (.int w3), .val (.int w4), .val (.long w5), .second]) rfl ?_
          show Steps p.tables e below (T59.setTop (mkF m 246 #[.val (.int p1), .val (.long p2), .second, .val (.int p3), .val (.ref ad21), .val (.int w1), .val (.int w2), .val (.int (w12 &&& (if (own_adm (own_adm (own_adm (own_adm f3 (w1 - (1 : Int32)).toInt p2) (w1 - (1 : Int32)).toInt w5) (w1 - (1 : Int32)).toInt (w5 + (1 : Int64))) (w2 - (1 : Int32)).toInt c3) (w2 - (1 : Int32)).toInt < (c3 + (1 : Int64)) then (1 : Int32) else (0 : Int32)))), .val (.long c2), .second, .val (.long c3), .second, .val (.int w3), .val (.int w4), .val (.long w5), .second] [])) _
          rw [qw13] at k
          exact k
        refine OwnWp.step (U' := T59.setTop (mkF m 248 #[.val (.int p1), .val (.long p2), .second, .val (.int p3), .val (.ref ad21), .val (.int w1), .val (.int w2), .val (.int w13), .val (.long c2), .second, .val (.long c3), .second, .val (.int w3), .val (.int w4), .val (.long w5), .second] [(.int w13)])) (fun t k => ?_) ?_
        · show Steps p.tables e below (T59.setTop (mkF m 246 #[.val (.int p1), .val (.long p2), .second, .val (.int p3), .val (.ref ad21), .val (.int w1), .val (.int w2), .val (.int w13), .val (.long c2), .second, .val (.long c3), .second, .val (.int w3), .val (.int w4), .val (.long w5), .second] [])) _
          refine XS.iload X59.here hx rfl (hb hby at_246) rfl ?_
          show Steps p.tables e below (T59.setTop (mkF m 248 #[.val (.int p1), .val (.long p2), .second, .val (.int p3), .val (.ref ad21), .val (.int w1), .val (.int w2), .val (.int w13), .val (.long c2), .second, .val (.long c3), .second, .val (.int w3), .val (.int w4), .val (.long w5), .second] [(.int w13)])) _
          exact k
        have hfin := own_law p2 w1 w2 c2 c3 f3 hne hc2 hc3 hx3 hy3 w3 qw3 w4 qw4 w5 qw5 w6 qw6 w7 qw7 w8 qw8 w9 qw9 w10 qw10 w11 qw11 w12 qw12 w13 qw13
        refine OwnWp.retZ X59 hx hlk Bd.returns (hb hby at_248) (by decide) (by decide) (Or.inr hfin) ?_
        exact ⟨by rw [hfin], N59⟩
      by_cases c89_63 : (p3 &&& (1 : Int32)) = (0 : Int32)
      · refine OwnWp.step (U' := T30.setTop (mkF m 113 #[.val (.int p1), .val (.long p2), .second, .val (.int p3), .val (.ref ad21), .val (.int w1), .val (.int w2), .val (.int (1 : Int32)), .val (.long c2), .second, .val (.long (0 : Int64)), .second, .unset, .unset, .unset, .unset] [])) (fun t k => ?_) ?_
        · show Steps p.tables e below (T30.setTop (mkF m 89 #[.val (.int p1), .val (.long p2), .second, .val (.int p3), .val (.ref ad21), .val (.int w1), .val (.int w2), .val (.int (1 : Int32)), .val (.long c2), .second, .val (.long (0 : Int64)), .second, .unset, .unset, .unset, .unset] [(.int (p3 &&& (1 : Int32)))])) _
          refine XS.ifYes X30.here hx rfl (pc0 := 89) (pc' := 113) rfl (hb hby at_89) rfl (XT.i0_eq_t c89_63) (by decide) (by decide) ?_
          exact k
        exact J3  T30 h30 _ (0 : Int64) f2 X30 e30 N30 Z30 f31 f32 f33  (by decide) hy2 hx2
      · refine OwnWp.step (U' := T30.setTop (mkF m 92 #[.val (.int p1), .val (.long p2), .second, .val (.int p3), .val (.ref ad21), .val (.int w1), .val (.int w2), .val (.int (1 : Int32)), .val (.long c2), .second, .val (.long (0 : Int64)), .second, .unset, .unset, .unset, .unset] [])) (fun t k => ?_) ?_
        · show Steps p.tables e below (T30.setTop (mkF m 89 #[.val (.int p1), .val (.long p2), .second, .val (.int p3), .val (.ref ad21), .val (.int w1), .val (.int w2), .val (.int (1 : Int32)), .val (.long c2), .second, .val (.long (0 : Int64)), .second, .unset, .unset, .unset, .unset] [(.int (p3 &&& (1 : Int32)))])) _
          refine XS.ifNo X30.here hx rfl (hb hby at_89) rfl (XT.i0_eq_f c89_63) ?_
          exact k
        refine OwnWp.step (U' := T30.setTop (mkF m 101 #[.val (.int p1), .val (.long p2), .second, .val (.int p3), .val (.ref ad21), .val (.int w1), .val (.int w2), .val (.int (1 : Int32)), .val (.long c2), .second, .val (.long (0 : Int64)), .second, .unset, .unset, .unset, .unset] [(.long (9223372036854775807 : Int64)), (.int w2), (.ref ad21), (.int (1 : Int32))])) (fun t k => ?_) ?_
        · show Steps p.tables e below (T30.setTop (mkF m 92 #[.val (.int p1), .val (.long p2), .second, .val (.int p3), .val (.ref ad21), .val (.int w1), .val (.int w2), .val (.int (1 : Int32)), .val (.long c2), .second, .val (.long (0 : Int64)), .second, .unset, .unset, .unset, .unset] [])) _
          refine XS.iload X30.here hx rfl (hb hby at_92) rfl ?_
          show Steps p.tables e below (T30.setTop (mkF m 94 #[.val (.int p1), .val (.long p2), .second, .val (.int p3), .val (.ref ad21), .val (.int w1), .val (.int w2), .val (.int (1 : Int32)), .val (.long c2), .second, .val (.long (0 : Int64)), .second, .unset, .unset, .unset, .unset] [(.int (1 : Int32))])) _
          refine XS.aload X30.here hx rfl (hb hby at_94) rfl rfl ?_
          show Steps p.tables e below (T30.setTop (mkF m 96 #[.val (.int p1), .val (.long p2), .second, .val (.int p3), .val (.ref ad21), .val (.int w1), .val (.int w2), .val (.int (1 : Int32)), .val (.long c2), .second, .val (.long (0 : Int64)), .second, .unset, .unset, .unset, .unset] [(.ref ad21), (.int (1 : Int32))])) _
          refine XS.iload X30.here hx rfl (hb hby at_96) rfl ?_
          show Steps p.tables e below (T30.setTop (mkF m 98 #[.val (.int p1), .val (.long p2), .second, .val (.int p3), .val (.ref ad21), .val (.int w1), .val (.int w2), .val (.int (1 : Int32)), .val (.long c2), .second, .val (.long (0 : Int64)), .second, .unset, .unset, .unset, .unset] [(.int w2), (.ref ad21), (.int (1 : Int32))])) _
          refine X30.ldc2J hx hown (mvT hZ (hw _ (List.mem_of_getElem? (i := 12) rfl))) rfl (hb hby at_98) ?_
          show Steps p.tables e below (T30.setTop (mkF m 101 #[.val (.int p1), .val (.long p2), .second, .val (.int p3), .val (.ref ad21), .val (.int w1), .val (.int w2), .val (.int (1 : Int32)), .val (.long c2), .second, .val (.long (0 : Int64)), .second, .unset, .unset, .unset, .unset] [(.long (9223372036854775807 : Int64)), (.int w2), (.ref ad21), (.int (1 : Int32))])) _
          exact k
        obtain ⟨cq64, kq64, qa64, qb64, qc64⟩ := isOf hZ e30 f31
        obtain ⟨_, _, ⟨T64, L64, k64, n64⟩, -, X64, ⟨Lc64, hQ64, l64, y64, z64⟩, st64⟩ := X30.virtualBack hx (y := (⟨"com/example/tynemouth/tynemouth/control/PoolOccupancy", "admitBelow", "(IJ)Z"⟩ : MethodName)) (z := (⟨"com/example/tynemouth/tynemouth/control/PoolOccupancy", "admitBelow", "(IJ)Z"⟩ : MethodName)) hown (mvT hZ (hw _ (List.mem_of_getElem? (i := 13) rfl))) (mvT hZ (hw _ (List.mem_of_getElem? (i := 14) rfl))) (notFace_of_selects (args := #[]) (mvT hZ (hw _ (List.mem_of_getElem? (i := 16) rfl)))) (mvT hZ (hw _ (List.mem_of_getElem? (i := 16) rfl))) (mvT hZ (hw _ (List.mem_of_getElem? (i := 15) rfl))) (by decide) (backOf (W := 1) (rm3 l Z a0 hw [] ad21 w2 (9223372036854775807 : Int64) ab23 f2 h30 n0 Z30 bb23 nb23 f32 f33 ho.1 ho.2) hZ (hw _ (List.mem_of_getElem? (i := 17) rfl)) (hw _ (List.mem_of_getElem? (i := 2) rfl)) (by decide) (by decide)) qa64 qc64 (g := (mkF m 101 #[.val (.int p1), .val (.long p2), .second, .val (.int p3), .val (.ref ad21), .val (.int w1), .val (.int w2), .val (.int (1 : Int32)), .val (.long c2), .second, .val (.long (0 : Int64)), .second, .unset, .unset, .unset, .unset] [(.long (9223372036854775807 : Int64)), (.int w2), (.ref ad21), (.int (1 : Int32))])) rfl (by rw [hml]; rfl) (Steps.refl _) (argsL := [(.int w2), (.long (9223372036854775807 : Int64))]) (rest := [(.int (1 : Int32))]) (lenOf pd_3 rfl) rfl (by show 2 * 0 + _ ≤ _; exact Nat.le_of_eq rfl) (hb hby at_101) (fun _ _ => ⟨rfl, e30, (by dsimp only [Pt.cells]; decide), (by dsimp only [Pt.slots]; decide)⟩)
        dsimp only [Pt.U, Pt.locs, Pt.cells, Pt.slots] at X64 l64 y64 z64 st64 hQ64
        subst l64 y64 z64
        obtain ⟨rfl, Nc64, Kc64, gf64⟩ := hQ64
        have N64 := Fr.app N30 Nc64
        refine OwnWp.go st64 ?_
        have Z64 : n0 ≤ T64.heap.size := Nat.le_trans Z30 Kc64.1
        have f65 := Exa.keep f31 Kc64
        have f66 := Fld.keep f32 Kc64 (ninS nb23 nin0)
        show OwnWp p e below s _ _ _ (T64.setTop (mkF m 104 #[.val (.int p1), .val (.long p2), .second, .val (.int p3), .val (.ref ad21), .val (.int w1), .val (.int w2), .val (.int (1 : Int32)), .val (.long c2), .second, .val (.long (0 : Int64)), .second, .unset, .unset, .unset, .unset] [(.int (if f2 (w2 - (1 : Int32)).toInt < (9223372036854775807 : Int64) then (1 : Int32) else (0 : Int32))), (.int (1 : Int32))]))
        obtain ⟨w14, qw14⟩ : ∃ z : Int32, z = ((1 : Int32) &&& (if f2 (w2 - (1 : Int32)).toInt < (9223372036854775807 : Int64) then (1 : Int32) else (0 : Int32))) := ⟨_, rfl⟩
        refine OwnWp.step (U' := T64.setTop (mkF m 107 #[.val (.int p1), .val (.long p2), .second, .val (.int p3), .val (.ref ad21), .val (.int w1), .val (.int w2), .val (.int w14), .val (.long c2), .second, .val (.long (0 : Int64)), .second, .unset, .unset, .unset, .unset] [])) (fun t k => ?_) ?_
        · show Steps p.tables e below (T64.setTop (mkF m 104 #[.val (.int p1), .val (.long p2), .second, .val (.int p3), .val (.ref ad21), .val (.int w1), .val (.int w2), .val (.int (1 : Int32)), .val (.long c2), .second, .val (.long (0 : Int64)), .second, .unset, .unset, .unset, .unset] [(.int (if f2 (w2 - (1 : Int32)).toInt < (9223372036854775807 : Int64) then (1 : Int32) else (0 : Int32))), (.int (1 : Int32))])) _
          refine XS.iand X64.here hx rfl (hb hby at_104) rfl ?_
          show Steps p.tables e below (T64.setTop (mkF m 105 #[.val (.int p1), .val (.long p2), .second, .val (.int p3), .val (.ref ad21), .val (.int w1), .val (.int w2), .val (.int (1 : Int32)), .val (.long c2), .second, .val (.long (0 : Int64)), .second, .unset, .unset, .unset, .unset] [(.int ((1 : Int32) &&& (if f2 (w2 - (1 : Int32)).toInt < (9223372036854775807 : Int64) then (1 : Int32) else (0 : Int32))))])) _
          refine XS.istore X64.here hx rfl (hb hby at_105) rfl (l' := #[.val (.int p1), .val (.long p2), .second, .val (.int p3), .val (.ref ad21), .val (.int w1), .val (.int w2), .val (.int ((1 : Int32) &&& (if f2 (w2 - (1 : Int32)).toInt < (9223372036854775807 : Int64) then (1 : Int32) else (0 : Int32)))), .val (.long c2), .second, .val (.long (0 : Int64)), .second, .unset, .unset, .unset, .unset]) rfl ?_
          show Steps p.tables e below (T64.setTop (mkF m 107 #[.val (.int p1), .val (.long p2), .second, .val (.int p3), .val (.ref ad21), .val (.int w1), .val (.int w2), .val (.int ((1 : Int32) &&& (if f2 (w2 - (1 : Int32)).toInt < (9223372036854775807 : Int64) then (1 : Int32) else (0 : Int32)))), .val (.long c2), .second, .val (.long (0 : Int64)), .second, .unset, .unset, .unset, .unset] [])) _
          rw [qw14] at k
          exact k
        obtain ⟨w15, qw15⟩ : ∃ z : Int64, z = ((0 : Int64) + (1 : Int64)) := ⟨_, rfl⟩
        refine OwnWp.step (U' := T64.setTop (mkF m 113 #[.val (.int p1), .val (.long p2), .second, .val (.int p3), .val (.ref ad21), .val (.int w1), .val (.int w2), .val (.int w14), .val (.long c2), .second, .val (.long w15), .second, .unset, .unset, .unset, .unset] [])) (fun t k => ?_) ?_
        · show Steps p.tables e below (T64.setTop (mkF m 107 #[.val (.int p1), .val (.long p2), .second, .val (.int p3), .val (.ref ad21), .val (.int w1), .val (.int w2), .val (.int w14), .val (.long c2), .second, .val (.long (0 : Int64)), .second, .unset, .unset, .unset, .unset] [])) _
          refine XT.lload X64.here hx rfl (hb hby at_107) rfl ?_
          show Steps p.tables e below (T64.setTop (mkF m 109 #[.val (.int p1), .val (.long p2), .second, .val (.int p3), .val (.ref ad21), .val (.int w1), .val (.int w2), .val (.int w14), .val (.long c2), .second, .val (.long (0 : Int64)), .second, .unset, .unset, .unset, .unset] [(.long (0 : Int64))])) _
          refine XT.lconstV X64.here hx rfl (1 : Int64) (hb hby at_109) rfl ?_
          show Steps p.tables e below (T64.setTop (mkF m 110 #[.val (.int p1), .val (.long p2), .second, .val (.int p3), .val (.ref ad21), .val (.int w1), .val (.int w2), .val (.int w14), .val (.long c2), .second, .val (.long (0 : Int64)), .second, .unset, .unset, .unset, .unset] [(.long (1 : Int64)), (.long (0 : Int64))])) _
          refine XT.ladd X64.here hx rfl (hb hby at_110) rfl ?_
          show Steps p.tables e below (T64.setTop (mkF m 111 #[.val (.int p1), .val (.long p2), .second, .val (.int p3), .val (.ref ad21), .val (.int w1), .val (.int w2), .val (.int w14), .val (.long c2), .second, .val (.long (0 : Int64)), .second, .unset, .unset, .unset, .unset] [(.long ((0 : Int64) + (1 : Int64)))])) _
          refine XT.lstore X64.here hx rfl (hb hby at_111) rfl (l' := #[.val (.int p1), .val (.long p2), .second, .val (.int p3), .val (.ref ad21), .val (.int w1), .val (.int w2), .val (.int w14), .val (.long c2), .second, .val (.long ((0 : Int64) + (1 : Int64))), .second, .unset, .unset, .unset, .unset]) rfl ?_
          show Steps p.tables e below (T64.setTop (mkF m 113 #[.val (.int p1), .val (.long p2), .second, .val (.int p3), .val (.ref ad21), .val (.int w1), .val (.int w2), .val (.int w14), .val (.long c2), .second, .val (.long ((0 : Int64) + (1 : Int64))), .second, .unset, .unset, .unset, .unset] [])) _
          rw [qw15] at k
          exact k
        obtain ⟨ok3, hc3, hx3, hy3⟩ := own_stepD f2 c2 (w1 - (1 : Int32)).toInt (w2 - (1 : Int32)).toInt w14 w15 hx2 hy2 hne qw14 qw15
        subst ok3
        exact J3  T64 T64.heap _ w15 (own_adm f2 (w2 - (1 : Int32)).toInt (9223372036854775807 : Int64)) X64 (rfl : T64.heap = T64.heap) N64 Z64 f65 f66 gf64  hc3 hx3 hy3
    by_cases c59_68 : (p1 &&& (4 : Int32)) = (0 : Int32)
    · refine OwnWp.step (U' := T26.setTop (mkF m 83 #[.val (.int p1), .val (.long p2), .second, .val (.int p3), .val (.ref ad21), .val (.int w1), .val (.int w2), .val (.int (1 : Int32)), .val (.long c1), .second, .unset, .unset, .unset, .unset, .unset, .unset] [])) (fun t k => ?_) ?_
      · show Steps p.tables e below (T26.setTop (mkF m 59 #[.val (.int p1), .val (.long p2), .second, .val (.int p3), .val (.ref ad21), .val (.int w1), .val (.int w2), .val (.int (1 : Int32)), .val (.long c1), .second, .unset, .unset, .unset, .unset, .unset, .unset] [(.int (p1 &&& (4 : Int32)))])) _
        refine XS.ifYes X26.here hx rfl (pc0 := 59) (pc' := 83) rfl (hb hby at_59) rfl (XT.i0_eq_t c59_68) (by decide) (by decide) ?_
        exact k
      exact J2  T26 h26 _ c1 f1 X26 e26 N26 Z26 f27 f28 f29  (by omega) hx1 hy1
    · refine OwnWp.step (U' := T26.setTop (mkF m 62 #[.val (.int p1), .val (.long p2), .second, .val (.int p3), .val (.ref ad21), .val (.int w1), .val (.int w2), .val (.int (1 : Int32)), .val (.long c1), .second, .unset, .unset, .unset, .unset, .unset, .unset] [])) (fun t k => ?_) ?_
      · show Steps p.tables e below (T26.setTop (mkF m 59 #[.val (.int p1), .val (.long p2), .second, .val (.int p3), .val (.ref ad21), .val (.int w1), .val (.int w2), .val (.int (1 : Int32)), .val (.long c1), .second, .unset, .unset, .unset, .unset, .unset, .unset] [(.int (p1 &&& (4 : Int32)))])) _
        refine XS.ifNo X26.here hx rfl (hb hby at_59) rfl (XT.i0_eq_f c59_68) ?_
        exact k
      refine OwnWp.step (U' := T26.setTop (mkF m 71 #[.val (.int p1), .val (.long p2), .second, .val (.int p3), .val (.ref ad21), .val (.int w1), .val (.int w2), .val (.int (1 : Int32)), .val (.long c1), .second, .unset, .unset, .unset, .unset, .unset, .unset] [(.long (9223372036854775807 : Int64)), (.int w1), (.ref ad21), (.int (1 : Int32))])) (fun t k => ?_) ?_
      · show Steps p.tables e below (T26.setTop (mkF m 62 #[.val (.int p1), .val (.long p2), .second, .val (.int p3), .val (.ref ad21), .val (.int w1), .val (.int w2), .val (.int (1 : Int32)), .val (.long c1), .second, .unset, .unset, .unset, .unset, .unset, .unset] [])) _
        refine XS.iload X26.here hx rfl (hb hby at_62) rfl ?_
        show Steps p.tables e below (T26.setTop (mkF m 64 #[.val (.int p1), .val (.long p2), .second, .val (.int p3), .val (.ref ad21), .val (.int w1), .val (.int w2), .val (.int (1 : Int32)), .val (.long c1), .second, .unset, .unset, .unset, .unset, .unset, .unset] [(.int (1 : Int32))])) _
        refine XS.aload X26.here hx rfl (hb hby at_64) rfl rfl ?_
        show Steps p.tables e below (T26.setTop (mkF m 66 #[.val (.int p1), .val (.long p2), .second, .val (.int p3), .val (.ref ad21), .val (.int w1), .val (.int w2), .val (.int (1 : Int32)), .val (.long c1), .second, .unset, .unset, .unset, .unset, .unset, .unset] [(.ref ad21), (.int (1 : Int32))])) _
        refine XS.iload X26.here hx rfl (hb hby at_66) rfl ?_
        show Steps p.tables e below (T26.setTop (mkF m 68 #[.val (.int p1), .val (.long p2), .second, .val (.int p3), .val (.ref ad21), .val (.int w1), .val (.int w2), .val (.int (1 : Int32)), .val (.long c1), .second, .unset, .unset, .unset, .unset, .unset, .unset] [(.int w1), (.ref ad21), (.int (1 : Int32))])) _
        refine X26.ldc2J hx hown (mvT hZ (hw _ (List.mem_of_getElem? (i := 12) rfl))) rfl (hb hby at_68) ?_
        show Steps p.tables e below (T26.setTop (mkF m 71 #[.val (.int p1), .val (.long p2), .second, .val (.int p3), .val (.ref ad21), .val (.int w1), .val (.int w2), .val (.int (1 : Int32)), .val (.long c1), .second, .unset, .unset, .unset, .unset, .unset, .unset] [(.long (9223372036854775807 : Int64)), (.int w1), (.ref ad21), (.int (1 : Int32))])) _
        exact k
      obtain ⟨cq69, kq69, qa69, qb69, qc69⟩ := isOf hZ e26 f27
      obtain ⟨_, _, ⟨T69, L69, k69, n69⟩, -, X69, ⟨Lc69, hQ69, l69, y69, z69⟩, st69⟩ := X26.virtualBack hx (y := (⟨"com/example/tynemouth/tynemouth/control/PoolOccupancy", "admitBelow", "(IJ)Z"⟩ : MethodName)) (z := (⟨"com/example/tynemouth/tynemouth/control/PoolOccupancy", "admitBelow", "(IJ)Z"⟩ : MethodName)) hown (mvT hZ (hw _ (List.mem_of_getElem? (i := 13) rfl))) (mvT hZ (hw _ (List.mem_of_getElem? (i := 14) rfl))) (notFace_of_selects (args := #[]) (mvT hZ (hw _ (List.mem_of_getElem? (i := 16) rfl)))) (mvT hZ (hw _ (List.mem_of_getElem? (i := 16) rfl))) (mvT hZ (hw _ (List.mem_of_getElem? (i := 15) rfl))) (by decide) (backOf (W := 1) (rm3 l Z a0 hw [] ad21 w1 (9223372036854775807 : Int64) ab23 f1 h26 n0 Z26 bb23 nb23 f28 f29 ht.1 ht.2) hZ (hw _ (List.mem_of_getElem? (i := 17) rfl)) (hw _ (List.mem_of_getElem? (i := 2) rfl)) (by decide) (by decide)) qa69 qc69 (g := (mkF m 71 #[.val (.int p1), .val (.long p2), .second, .val (.int p3), .val (.ref ad21), .val (.int w1), .val (.int w2), .val (.int (1 : Int32)), .val (.long c1), .second, .unset, .unset, .unset, .unset, .unset, .unset] [(.long (9223372036854775807 : Int64)), (.int w1), (.ref ad21), (.int (1 : Int32))])) rfl (by rw [hml]; rfl) (Steps.refl _) (argsL := [(.int w1), (.long (9223372036854775807 : Int64))]) (rest := [(.int (1 : Int32))]) (lenOf pd_3 rfl) rfl (by show 2 * 0 + _ ≤ _; exact Nat.le_of_eq rfl) (hb hby at_71) (fun _ _ => ⟨rfl, e26, (by dsimp only [Pt.cells]; decide), (by dsimp only [Pt.slots]; decide)⟩)
      dsimp only [Pt.U, Pt.locs, Pt.cells, Pt.slots] at X69 l69 y69 z69 st69 hQ69
      subst l69 y69 z69
      obtain ⟨rfl, Nc69, Kc69, gf69⟩ := hQ69
      have N69 := Fr.app N26 Nc69
      refine OwnWp.go st69 ?_
      have Z69 : n0 ≤ T69.heap.size := Nat.le_trans Z26 Kc69.1
      have f70 := Exa.keep f27 Kc69
      have f71 := Fld.keep f28 Kc69 (ninS nb23 nin0)
      show OwnWp p e below s _ _ _ (T69.setTop (mkF m 74 #[.val (.int p1), .val (.long p2), .second, .val (.int p3), .val (.ref ad21), .val (.int w1), .val (.int w2), .val (.int (1 : Int32)), .val (.long c1), .second, .unset, .unset, .unset, .unset, .unset, .unset] [(.int (if f1 (w1 - (1 : Int32)).toInt < (9223372036854775807 : Int64) then (1 : Int32) else (0 : Int32))), (.int (1 : Int32))]))
      obtain ⟨w16, qw16⟩ : ∃ z : Int32, z = ((1 : Int32) &&& (if f1 (w1 - (1 : Int32)).toInt < (9223372036854775807 : Int64) then (1 : Int32) else (0 : Int32))) := ⟨_, rfl⟩
      refine OwnWp.step (U' := T69.setTop (mkF m 77 #[.val (.int p1), .val (.long p2), .second, .val (.int p3), .val (.ref ad21), .val (.int w1), .val (.int w2), .val (.int w16), .val (.long c1), .second, .unset, .unset, .unset, .unset, .unset, .unset] [])) (fun t k => ?_) ?_
      · show Steps p.tables e below (T69.setTop (mkF m 74 #[.val (.int p1), .val (.long p2), .second, .val (.int p3), .val (.ref ad21), .val (.int w1), .val (.int w2), .val (.int (1 : Int32)), .val (.long c1), .second, .unset, .unset, .unset, .unset, .unset, .unset] [(.int (if f1 (w1 - (1 : Int32)).toInt < (9223372036854775807 : Int64) then (1 : Int32) else (0 : Int32))), (.int (1 : Int32))])) _
        refine XS.iand X69.here hx rfl (hb hby at_74) rfl ?_
        show Steps p.tables e below (T69.setTop (mkF m 75 #[.val (.int p1), .val (.long p2), .second, .val (.int p3), .val (.ref ad21), .val (.int w1), .val (.int w2), .val (.int (1 : Int32)), .val (.long c1), .second, .unset, .unset, .unset, .unset, .unset, .unset] [(.int ((1 : Int32) &&& (if f1 (w1 - (1 : Int32)).toInt < (9223372036854775807 : Int64) then (1 : Int32) else (0 : Int32))))])) _
        refine XS.istore X69.here hx rfl (hb hby at_75) rfl (l' := #[.val (.int p1), .val (.long p2), .second, .val (.int p3), .val (.ref ad21), .val (.int w1), .val (.int w2), .val (.int ((1 : Int32) &&& (if f1 (w1 - (1 : Int32)).toInt < (9223372036854775807 : Int64) then (1 : Int32) else (0 : Int32)))), .val (.long c1), .second, .unset, .unset, .unset, .unset, .unset, .unset]) rfl ?_
        show Steps p.tables e below (T69.setTop (mkF m 77 #[.val (.int p1), .val (.long p2), .second, .val (.int p3), .val (.ref ad21), .val (.int w1), .val (.int w2), .val (.int ((1 : Int32) &&& (if f1 (w1 - (1 : Int32)).toInt < (9223372036854775807 : Int64) then (1 : Int32) else (0 : Int32)))), .val (.long c1), .second, .unset, .unset, .unset, .unset, .unset, .unset] [])) _
        rw [qw16] at k
        exact k
      obtain ⟨w17, qw17⟩ : ∃ z : Int64, z = (c1 + (1 : Int64)) := ⟨_, rfl⟩
      refine OwnWp.step (U' := T69.setTop (mkF m 83 #[.val (.int p1), .val (.long p2), .second, .val (.int p3), .val (.ref ad21), .val (.int w1), .val (.int w2), .val (.int w16), .val (.long w17), .second, .unset, .unset, .unset, .unset, .unset, .unset] [])) (fun t k => ?_) ?_
      · show Steps p.tables e below (T69.setTop (mkF m 77 #[.val (.int p1), .val (.long p2), .second, .val (.int p3), .val (.ref ad21), .val (.int w1), .val (.int w2), .val (.int w16), .val (.long c1), .second, .unset, .unset, .unset, .unset, .unset, .unset] [])) _
        refine XT.lload X69.here hx rfl (hb hby at_77) rfl ?_
        show Steps p.tables e below (T69.setTop (mkF m 79 #[.val (.int p1), .val (.long p2), .second, .val (.int p3), .val (.ref ad21), .val (.int w1), .val (.int w2), .val (.int w16), .val (.long c1), .second, .unset, .unset, .unset, .unset, .unset, .unset] [(.long c1)])) _
        refine XT.lconstV X69.here hx rfl (1 : Int64) (hb hby at_79) rfl ?_
        show Steps p.tables e below (T69.setTop (mkF m 80 #[.val (.int p1), .val (.long p2), .second, .val (.int p3), .val (.ref ad21), .val (.int w1), .val (.int w2), .val (.int w16), .val (.long c1), .second, .unset, .unset, .unset, .unset, .unset, .unset] [(.long (1 : Int64)), (.long c1)])) _
        refine XT.ladd X69.here hx rfl (hb hby at_80) rfl ?_
        show Steps p.tables e below (T69.setTop (mkF m 81 #[.val (.int p1), .val (.long p2), .second, .val (.int p3), .val (.ref ad21), .val (.int w1), .val (.int w2), .val (.int w16), .val (.long c1), .second, .unset, .unset, .unset, .unset, .unset, .unset] [(.long (c1 + (1 : Int64)))])) _
        refine XT.lstore X69.here hx rfl (hb hby at_81) rfl (l' := #[.val (.int p1), .val (.long p2), .second, .val (.int p3), .val (.ref ad21), .val (.int w1), .val (.int w2), .val (.int w16), .val (.long (c1 + (1 : Int64))), .second, .unset, .unset, .unset, .unset, .unset, .unset]) rfl ?_
        show Steps p.tables e below (T69.setTop (mkF m 83 #[.val (.int p1), .val (.long p2), .second, .val (.int p3), .val (.ref ad21), .val (.int w1), .val (.int w2), .val (.int w16), .val (.long (c1 + (1 : Int64))), .second, .unset, .unset, .unset, .unset, .unset, .unset] [])) _
        rw [qw17] at k
        exact k
      obtain ⟨ok2, hc2, hx2, hy2⟩ := own_step f1 c1 (w1 - (1 : Int32)).toInt (w2 - (1 : Int32)).toInt w16 w17 1 2 (by decide) (by decide) hc1 hx1 hy1 hne qw16 qw17
      subst ok2
      exact J2  T69 T69.heap _ w17 (own_adm f1 (w1 - (1 : Int32)).toInt (9223372036854775807 : Int64)) X69 (rfl : T69.heap = T69.heap) N69 Z69 f70 f71 gf69  hc2 hx2 hy2
  by_cases c32_73 : (p1 &&& (2 : Int32)) = (0 : Int32)
  · refine OwnWp.step (U' := T23.setTop (mkF m 56 #[.val (.int p1), .val (.long p2), .second, .val (.int p3), .val (.ref ad21), .val (.int w1), .val (.int w2), .val (.int (1 : Int32)), .val (.long (0 : Int64)), .second, .unset, .unset, .unset, .unset, .unset, .unset] [])) (fun t k => ?_) ?_
    · show Steps p.tables e below (T23.setTop (mkF m 32 #[.val (.int p1), .val (.long p2), .second, .val (.int p3), .val (.ref ad21), .val (.int w1), .val (.int w2), .val (.int (1 : Int32)), .val (.long (0 : Int64)), .second, .unset, .unset, .unset, .unset, .unset, .unset] [(.int (p1 &&& (2 : Int32)))])) _
      refine XS.ifYes X23.here hx rfl (pc0 := 32) (pc' := 56) rfl (hb hby at_32) rfl (XT.i0_eq_t c32_73) (by decide) (by decide) ?_
      exact k
    exact J1  T23 T23.heap _ (0 : Int64) (fun _ => (0 : Int64)) X23 (rfl : T23.heap = T23.heap) N23 Z23 f24 fb23 gb23  (by decide) rfl rfl
  · refine OwnWp.step (U' := T23.setTop (mkF m 35 #[.val (.int p1), .val (.long p2), .second, .val (.int p3), .val (.ref ad21), .val (.int w1), .val (.int w2), .val (.int (1 : Int32)), .val (.long (0 : Int64)), .second, .unset, .unset, .unset, .unset, .unset, .unset] [])) (fun t k => ?_) ?_
    · show Steps p.tables e below (T23.setTop (mkF m 32 #[.val (.int p1), .val (.long p2), .second, .val (.int p3), .val (.ref ad21), .val (.int w1), .val (.int w2), .val (.int (1 : Int32)), .val (.long (0 : Int64)), .second, .unset, .unset, .unset, .unset, .unset, .unset] [(.int (p1 &&& (2 : Int32)))])) _
      refine XS.ifNo X23.here hx rfl (hb hby at_32) rfl (XT.i0_eq_f c32_73) ?_
      exact k
    refine OwnWp.step (U' := T23.setTop (mkF m 44 #[.val (.int p1), .val (.long p2), .second, .val (.int p3), .val (.ref ad21), .val (.int w1), .val (.int w2), .val (.int (1 : Int32)), .val (.long (0 : Int64)), .second, .unset, .unset, .unset, .unset, .unset, .unset] [(.long (9223372036854775807 : Int64)), (.int w1), (.ref ad21), (.int (1 : Int32))])) (fun t k => ?_) ?_
    · show Steps p.tables e below (T23.setTop (mkF m 35 #[.val (.int p1), .val (.long p2), .second, .val (.int p3), .val (.ref ad21), .val (.int w1), .val (.int w2), .val (.int (1 : Int32)), .val (.long (0 : Int64)), .second, .unset, .unset, .unset, .unset, .unset, .unset] [])) _
      refine XS.iload X23.here hx rfl (hb hby at_35) rfl ?_
      show Steps p.tables e below (T23.setTop (mkF m 37 #[.val (.int p1), .val (.long p2), .second, .val (.int p3), .val (.ref ad21), .val (.int w1), .val (.int w2), .val (.int (1 : Int32)), .val (.long (0 : Int64)), .second, .unset, .unset, .unset, .unset, .unset, .unset] [(.int (1 : Int32))])) _
      refine XS.aload X23.here hx rfl (hb hby at_37) rfl rfl ?_
      show Steps p.tables e below (T23.setTop (mkF m 39 #[.val (.int p1), .val (.long p2), .second, .val (.int p3), .val (.ref ad21), .val (.int w1), .val (.int w2), .val (.int (1 : Int32)), .val (.long (0 : Int64)), .second, .unset, .unset, .unset, .unset, .unset, .unset] [(.ref ad21), (.int (1 : Int32))])) _
      refine XS.iload X23.here hx rfl (hb hby at_39) rfl ?_
      show Steps p.tables e below (T23.setTop (mkF m 41 #[.val (.int p1), .val (.long p2), .second, .val (.int p3), .val (.ref ad21), .val (.int w1), .val (.int w2), .val (.int (1 : Int32)), .val (.long (0 : Int64)), .second, .unset, .unset, .unset, .unset, .unset, .unset] [(.int w1), (.ref ad21), (.int (1 : Int32))])) _
      refine X23.ldc2J hx hown (mvT hZ (hw _ (List.mem_of_getElem? (i := 12) rfl))) rfl (hb hby at_41) ?_
      show Steps p.tables e below (T23.setTop (mkF m 44 #[.val (.int p1), .val (.long p2), .second, .val (.int p3), .val (.ref ad21), .val (.int w1), .val (.int w2), .val (.int (1 : Int32)), .val (.long (0 : Int64)), .second, .unset, .unset, .unset, .unset, .unset, .unset] [(.long (9223372036854775807 : Int64)), (.int w1), (.ref ad21), (.int (1 : Int32))])) _
      exact k
    obtain ⟨cq74, kq74, qa74, qb74, qc74⟩ := isOf hZ (rfl : T23.heap = T23.heap) f24
    obtain ⟨_, _, ⟨T74, L74, k74, n74⟩, -, X74, ⟨Lc74, hQ74, l74, y74, z74⟩, st74⟩ := X23.virtualBack hx (y := (⟨"com/example/tynemouth/tynemouth/control/PoolOccupancy", "admitBelow", "(IJ)Z"⟩ : MethodName)) (z := (⟨"com/example/tynemouth/tynemouth/control/PoolOccupancy", "admitBelow", "(IJ)Z"⟩ : MethodName)) hown (mvT hZ (hw _ (List.mem_of_getElem? (i := 13) rfl))) (mvT hZ (hw _ (List.mem_of_getElem? (i := 14) rfl))) (notFace_of_selects (args := #[]) (mvT hZ (hw _ (List.mem_of_getElem? (i := 16) rfl)))) (mvT hZ (hw _ (List.mem_of_getElem? (i := 16) rfl))) (mvT hZ (hw _ (List.mem_of_getElem? (i := 15) rfl))) (by decide) (backOf (W := 1) (rm3 l Z a0 hw [] ad21 w1 (9223372036854775807 : Int64) ab23 (fun _ => (0 : Int64)) T23.heap n0 Z23 bb23 nb23 fb23 gb23 ht.1 ht.2) hZ (hw _ (List.mem_of_getElem? (i := 17) rfl)) (hw _ (List.mem_of_getElem? (i := 2) rfl)) (by decide) (by decide)) qa74 qc74 (g := (mkF m 44 #[.val (.int p1), .val (.long p2), .second, .val (.int p3), .val (.ref ad21), .val (.int w1), .val (.int w2), .val (.int (1 : Int32)), .val (.long (0 : Int64)), .second, .unset, .unset, .unset, .unset, .unset, .unset] [(.long (9223372036854775807 : Int64)), (.int w1), (.ref ad21), (.int (1 : Int32))])) rfl (by rw [hml]; rfl) (Steps.refl _) (argsL := [(.int w1), (.long (9223372036854775807 : Int64))]) (rest := [(.int (1 : Int32))]) (lenOf pd_3 rfl) rfl (by show 2 * 0 + _ ≤ _; exact Nat.le_of_eq rfl) (hb hby at_44) (fun _ _ => ⟨rfl, (rfl : T23.heap = T23.heap), (by dsimp only [Pt.cells]; decide), (by dsimp only [Pt.slots]; decide)⟩)
    dsimp only [Pt.U, Pt.locs, Pt.cells, Pt.slots] at X74 l74 y74 z74 st74 hQ74
    subst l74 y74 z74
    obtain ⟨rfl, Nc74, Kc74, gf74⟩ := hQ74
    have N74 := Fr.app N23 Nc74
    refine OwnWp.go st74 ?_
    have Z74 : n0 ≤ T74.heap.size := Nat.le_trans Z23 Kc74.1
    have f75 := Exa.keep f24 Kc74
    have f76 := Fld.keep fb23 Kc74 (ninS nb23 nin0)
    show OwnWp p e below s _ _ _ (T74.setTop (mkF m 47 #[.val (.int p1), .val (.long p2), .second, .val (.int p3), .val (.ref ad21), .val (.int w1), .val (.int w2), .val (.int (1 : Int32)), .val (.long (0 : Int64)), .second, .unset, .unset, .unset, .unset, .unset, .unset] [(.int (if (fun _ => (0 : Int64)) (w1 - (1 : Int32)).toInt < (9223372036854775807 : Int64) then (1 : Int32) else (0 : Int32))), (.int (1 : Int32))]))
    obtain ⟨w18, qw18⟩ : ∃ z : Int32, z = ((1 : Int32) &&& (if (fun _ => (0 : Int64)) (w1 - (1 : Int32)).toInt < (9223372036854775807 : Int64) then (1 : Int32) else (0 : Int32))) := ⟨_, rfl⟩
    refine OwnWp.step (U' := T74.setTop (mkF m 50 #[.val (.int p1), .val (.long p2), .second, .val (.int p3), .val (.ref ad21), .val (.int w1), .val (.int w2), .val (.int w18), .val (.long (0 : Int64)), .second, .unset, .unset, .unset, .unset, .unset, .unset] [])) (fun t k => ?_) ?_
    · show Steps p.tables e below (T74.setTop (mkF m 47 #[.val (.int p1), .val (.long p2), .second, .val (.int p3), .val (.ref ad21), .val (.int w1), .val (.int w2), .val (.int (1 : Int32)), .val (.long (0 : Int64)), .second, .unset, .unset, .unset, .unset, .unset, .unset] [(.int (if (fun _ => (0 : Int64)) (w1 - (1 : Int32)).toInt < (9223372036854775807 : Int64) then (1 : Int32) else (0 : Int32))), (.int (1 : Int32))])) _
      refine XS.iand X74.here hx rfl (hb hby at_47) rfl ?_
      show Steps p.tables e below (T74.setTop (mkF m 48 #[.val (.int p1), .val (.long p2), .second, .val (.int p3), .val (.ref ad21), .val (.int w1), .val (.int w2), .val (.int (1 : Int32)), .val (.long (0 : Int64)), .second, .unset, .unset, .unset, .unset, .unset, .unset] [(.int ((1 : Int32) &&& (if (fun _ => (0 : Int64)) (w1 - (1 : Int32)).toInt < (9223372036854775807 : Int64) then (1 : Int32) else (0 : Int32))))])) _
      refine XS.istore X74.here hx rfl (hb hby at_48) rfl (l' := #[.val (.int p1), .val (.long p2), .second, .val (.int p3), .val (.ref ad21), .val (.int w1), .val (.int w2), .val (.int ((1 : Int32) &&& (if (fun _ => (0 : Int64)) (w1 - (1 : Int32)).toInt < (9223372036854775807 : Int64) then (1 : Int32) else (0 : Int32)))), .val (.long (0 : Int64)), .second, .unset, .unset, .unset, .unset, .unset, .unset]) rfl ?_
      show Steps p.tables e below (T74.setTop (mkF m 50 #[.val (.int p1), .val (.long p2), .second, .val (.int p3), .val (.ref ad21), .val (.int w1), .val (.int w2), .val (.int ((1 : Int32) &&& (if (fun _ => (0 : Int64)) (w1 - (1 : Int32)).toInt < (9223372036854775807 : Int64) then (1 : Int32) else (0 : Int32)))), .val (.long (0 : Int64)), .second, .unset, .unset, .unset, .unset, .unset, .unset] [])) _
      rw [qw18] at k
      exact k
    obtain ⟨w19, qw19⟩ : ∃ z : Int64, z = ((0 : Int64) + (1 : Int64)) := ⟨_, rfl⟩
    refine OwnWp.step (U' := T74.setTop (mkF m 56 #[.val (.int p1), .val (.long p2), .second, .val (.int p3), .val (.ref ad21), .val (.int w1), .val (.int w2), .val (.int w18), .val (.long w19), .second, .unset, .unset, .unset, .unset, .unset, .unset] [])) (fun t k => ?_) ?_
    · show Steps p.tables e below (T74.setTop (mkF m 50 #[.val (.int p1), .val (.long p2), .second, .val (.int p3), .val (.ref ad21), .val (.int w1), .val (.int w2), .val (.int w18), .val (.long (0 : Int64)), .second, .unset, .unset, .unset, .unset, .unset, .unset] [])) _
      refine XT.lload X74.here hx rfl (hb hby at_50) rfl ?_
      show Steps p.tables e below (T74.setTop (mkF m 52 #[.val (.int p1), .val (.long p2), .second, .val (.int p3), .val (.ref ad21), .val (.int w1), .val (.int w2), .val (.int w18), .val (.long (0 : Int64)), .second, .unset, .unset, .unset, .unset, .unset, .unset] [(.long (0 : Int64))])) _
      refine XT.lconstV X74.here hx rfl (1 : Int64) (hb hby at_52) rfl ?_
      show Steps p.tables e below (T74.setTop (mkF m 53 #[.val (.int p1), .val (.long p2), .second, .val (.int p3), .val (.ref ad21), .val (.int w1), .val (.int w2), .val (.int w18), .val (.long (0 : Int64)), .second, .unset, .unset, .unset, .unset, .unset, .unset] [(.long (1 : Int64)), (.long (0 : Int64))])) _
      refine XT.ladd X74.here hx rfl (hb hby at_53) rfl ?_
      show Steps p.tables e below (T74.setTop (mkF m 54 #[.val (.int p1), .val (.long p2), .second, .val (.int p3), .val (.ref ad21), .val (.int w1), .val (.int w2), .val (.int w18), .val (.long (0 : Int64)), .second, .unset, .unset, .unset, .unset, .unset, .unset] [(.long ((0 : Int64) + (1 : Int64)))])) _
      refine XT.lstore X74.here hx rfl (hb hby at_54) rfl (l' := #[.val (.int p1), .val (.long p2), .second, .val (.int p3), .val (.ref ad21), .val (.int w1), .val (.int w2), .val (.int w18), .val (.long ((0 : Int64) + (1 : Int64))), .second, .unset, .unset, .unset, .unset, .unset, .unset]) rfl ?_
      show Steps p.tables e below (T74.setTop (mkF m 56 #[.val (.int p1), .val (.long p2), .second, .val (.int p3), .val (.ref ad21), .val (.int w1), .val (.int w2), .val (.int w18), .val (.long ((0 : Int64) + (1 : Int64))), .second, .unset, .unset, .unset, .unset, .unset, .unset] [])) _
      rw [qw19] at k
      exact k
    obtain ⟨ok1, hc1, hx1, hy1⟩ := own_step (fun _ => (0 : Int64)) 0 (w1 - (1 : Int32)).toInt (w2 - (1 : Int32)).toInt w18 w19 0 1 (by decide) (by decide) (by decide) rfl rfl hne qw18 qw19
    subst ok1
    exact J1  T74 T74.heap _ w19 (own_adm (fun _ => (0 : Int64)) (w1 - (1 : Int32)).toInt (9223372036854775807 : Int64)) X74 (rfl : T74.heap = T74.heap) N74 Z74 f75 f76 gf74  hc1 hx1 hy1
set_option maxRecDepth 65536 in
set_option maxHeartbeats 40000000 in
theorem comes_1 {Post : Tables → Env → Array Value → State → Outcome → State → Prop} (hpost : ∀ tb e args s v u, (limb_1_1.after args s (.returned v) u = true ∧ limb_1_2.after args s (.returned v) u = true ∧ True) → FrameEnd s (.returned v) u (Jvm.fieldLocs frame_1_writes args s ++ Jvm.arrayLocs frame_1_arrays args s ++ Jvm.staticLocs frame_1_statics s) 16 128 → Post tb e args s (.returned v) u) :
    ArmFor flags0 classFile x code maxLocals ret World_1 tables_1 room_1 Calls_1 rest_1 Pre_1 Post := by
  intro l hfl _ _ p e ha hc hk s m args below hf hA hF happ hP
  obtain ⟨hcalls, hrest, hpre⟩ := hP
  obtain ⟨-, -, -, hnamed, -, -, -, hat⟩ := (Spec.applies_iff hf).mp happ
  obtain ⟨hg, hn⟩ := and_e (Cond.before_iff.mp (show (Jvm.Cond.and given_1 narrow_1).before args s = true from hpre))
  obtain ⟨hcount, g0⟩ := and_e hg
  obtain ⟨w0, w1, w2, rfl⟩ : ∃ w0 w1 w2 : Value, args = #[w0, w1, w2] := by
    have hs : args.size = 3 := by simpa [Cond.value, given_1] using hcount
    obtain ⟨L⟩ := args
    match L, hs with
    | [w0, w1, w2], _ => exact ⟨w0, w1, w2, rfl⟩
  have hw := fun d (hd : d ∈ tables_1) => atoms_spec (ws := Jvm.Cond.code x code maxLocals ret :: tables_1) hat d (List.mem_cons_of_mem _ hd)
  obtain ⟨u0, g1⟩ := and_e g0
  obtain ⟨i0, e0⟩ := is_v u0
  obtain rfl : w0 = (.int i0) := Option.some.inj e0
  obtain ⟨u1, g2⟩ := and_e g1
  obtain ⟨i1, e1⟩ := isL_v u1
  obtain rfl : w1 = (.long i1) := Option.some.inj e1
  obtain ⟨i2, e2⟩ := is_v g2
  obtain rfl : w2 = (.int i2) := Option.some.inj e2
  obtain ⟨n, o, h1, h2, h3, _, L, rfl, ⟨rfl, N⟩, hq⟩ := rm0 l s _ hw tables_1 i0 i1 i2 s.heap s.heap.size (Nat.le_refl _) p e ha hc hk s m _ below hf ((Spec.applies_iff_loose hf).mp happ).1 ⟨rfl, State.Warmed39.refl s, rfl⟩ trivial
  refine ⟨n, _, h1, h2, h3, hpost _ _ _ _ _ _ ⟨Cond.after_iff.mpr rfl, Cond.after_iff.mpr (eq_i res_at (Term.int_eval (1)) rfl), trivial⟩ ⟨hq.1, hq.2.1, (hq.2.2.sift fun y hy => Or.inr (N y hy)).mono (by decide) (by decide)⟩⟩
theorem main_1_1 : Claimed_1_1 := comes_1 fun _ _ _ _ _ _ h hF => ⟨h.1, hF⟩
theorem main_1_2 : Claimed_1_2 := comes_1 fun _ _ _ _ _ _ h hF => ⟨h.2.1, hF⟩
end Jvm.Pilot.@@N@@
namespace Jvm.Pilot.@@N@@
open Jvm Jvm.ClassFile Sem Op Lib Jvm.Free Jvm.Stand Jvm.Pilot.@@N@@.Jvm.D
/-! MADE BY PROGRAM (witnessworld.py) out of the Statement's table words and the real class files: 11 classes; the members and pool entries that the words name. The judged class is class 1, her method 1. -/
namespace start1
open Jvm.ClassFile
def u (s : String) : CpInfo := .utf8 (stringToUtf16 s)
/-- a pool by its gaps: so many unusable entries, then the entry; so many at the end -/
def gap : Nat → List CpInfo → List CpInfo
  | 0, r => r
  | n + 1, r => .unusable :: gap n r
def poolList (es : List (Nat × CpInfo)) (last : Nat) : List CpInfo := es.foldr (fun e r => gap e.1 (e.2 :: r)) (gap last [])
def pool (es : List (Nat × CpInfo)) (last : Nat) : Array CpInfo := ⟨poolList es last⟩
def fileOf (pool : Array CpInfo) (this : Nat) (attrs : Array Attribute := #[]) (ms : Array MethodInfo := #[]) (fl : Nat := 33) (sup : Nat := 0) (ifs : Array Nat := #[]) (fds : Array FieldInfo := #[]) : ClassFile where
  minorVersion := 0
  majorVersion := 65
  constantPool := pool
  accessFlags := fl
  thisClass := this
  superClass := sup
  interfaces := ifs
  fields := fds
  methods := ms
  attributes := attrs
def plain (name : String) (sup : Option ClassId) : Class where
  name := name
  kind := .ordinary
  loader := none
  accessFlags := 33
  super := sup
  interfaces := #[]
  cf := none
  fields := #[]
  methods := #[]
  instanceTypes := #[]
  staticTypes := #[]
  resolved := #[]
  callSites := []
  init := .initialized
  statics := none
  mirror := none

def pool0 : Array CpInfo := pool [(5, u "<init>"), (0, u "()V"), (1, .class_ 10), (1, u "java/lang/Object")] 113

def k0c0 : Code := { maxStack := 0, maxLocals := 1, code := object_method_1_code, exceptionTable := #[], attributes := #[] }
def k0m0 : Method := { name := "<init>", desc := "()V", sig := { parameters := [], returnType := none }, accessFlags := 1, code := some k0c0 }
/-- java/lang/Object -/
def k0 : Class := { plain "java/lang/Object" none with
  accessFlags := 33
  interfaces := #[]
  cf := some (fileOf pool0 8 #[] #[{ accessFlags := 1, nameIndex := 5, descriptorIndex := 6, attributes := #[] }] 33 0 #[] #[])
  fields := #[]
  methods := #[k0m0]
  instanceTypes := #[]
  staticTypes := #[]
  resolved := Array.replicate 124 none
  statics := none }

def pool1 : Array CpInfo := pool [(2, .class_ 4), (1, u "java/lang/Object"), (0, u "<init>"), (0, u "()V"), (0, .class_ 8), (0, u "com/example/tynemouth/tynemouth/control/PoolOccupancy"), (0, .methodref 7 10), (0, .nameAndType 5 11), (0, u "(I)V"), (2, .long 9223372036854775807), (1, .methodref 7 17), (0, .nameAndType 18 19), (0, u "admitBelow"), (0, u "(IJ)Z"), (0, .class_ 21), (0, u "com/example/tynemouth/tynemouth/control/PoolOccupancyAdmitBelowPinLaw"), (2, u "law"), (0, u "(IJI)Z")] 3

def k1m0 : Method := { name := "<init>", desc := "()V", sig := { parameters := [], returnType := none }, accessFlags := 1, code := none }
def k1c1 : Code := { maxStack := 7, maxLocals := 16, code := code, exceptionTable := #[], attributes := #[] }
def k1m1 : Method := { name := "law", desc := "(IJI)Z", sig := { parameters := [.int, .long, .int], returnType := some .boolean }, accessFlags := 9, code := some k1c1 }
/-- com/example/tynemouth/tynemouth/control/PoolOccupancyAdmitBelowPinLaw -/
def k1 : Class := { plain "com/example/tynemouth/tynemouth/control/PoolOccupancyAdmitBelowPinLaw" (some 0) with
  accessFlags := 49
  interfaces := #[]
  cf := some (fileOf pool1 20 #[] #[{ accessFlags := 1, nameIndex := 5, descriptorIndex := 6, attributes := #[] }, { accessFlags := 9, nameIndex := 24, descriptorIndex := 25, attributes := #[] }] 49 2 #[] #[])
  fields := #[]
  methods := #[k1m0, k1m1]
  instanceTypes := #[]
  staticTypes := #[]
  resolved := Array.replicate 29 none
  statics := none }

def pool2 : Array CpInfo := pool [(1, .methodref 2 3), (0, .class_ 4), (0, .nameAndType 5 6), (0, u "java/lang/Object"), (0, u "<init>"), (0, u "()V"), (0, .fieldref 8 9), (0, .class_ 10), (0, .nameAndType 11 12), (0, u "com/example/tynemouth/tynemouth/control/PoolOccupancy"), (0, u "present"), (0, u "[J"), (9, u "(I)V"), (2, u "admitBelow"), (0, u "(IJ)Z")] 19

def k2c0 : Code := { maxStack := 2, maxLocals := 2, code := prog_26_method_1_code, exceptionTable := #[], attributes := #[] }
def k2m0 : Method := { name := "<init>", desc := "(I)V", sig := { parameters := [.int], returnType := none }, accessFlags := 0, code := some k2c0 }
def k2c1 : Code := { maxStack := 6, maxLocals := 5, code := prog_26_method_2_code, exceptionTable := #[], attributes := #[] }
def k2m1 : Method := { name := "admitBelow", desc := "(IJ)Z", sig := { parameters := [.int, .long], returnType := some .boolean }, accessFlags := 0, code := some k2c1 }
/-- com/example/tynemouth/tynemouth/control/PoolOccupancy -/
def k2 : Class := { plain "com/example/tynemouth/tynemouth/control/PoolOccupancy" (some 0) with
  accessFlags := 48
  interfaces := #[]
  cf := some (fileOf pool2 8 #[] #[{ accessFlags := 0, nameIndex := 5, descriptorIndex := 22, attributes := #[] }, { accessFlags := 0, nameIndex := 25, descriptorIndex := 26, attributes := #[] }] 48 2 #[] #[{ accessFlags := 18, nameIndex := 11, descriptorIndex := 12, attributes := #[] }])
  fields := #[{ name := "present", type := (.array .long), accessFlags := 18, slot := 0, constantValue := 0 }]
  methods := #[k2m0, k2m1]
  instanceTypes := #[(.array .long)]
  staticTypes := #[]
  resolved := Array.replicate 46 none
  statics := none }

def pool3 : Array CpInfo := pool [(1, u "java/lang/Cloneable"), (0, .class_ 1), (0, u "java/lang/Object"), (0, .class_ 3)] 3

/-- java/lang/Cloneable -/
def k3 : Class := { plain "java/lang/Cloneable" (some 0) with
  accessFlags := 1537
  interfaces := #[]
  cf := some (fileOf pool3 2 #[] #[] 1537 4 #[] #[])
  fields := #[]
  methods := #[]
  instanceTypes := #[]
  staticTypes := #[]
  resolved := Array.replicate 8 none
  statics := none }

def pool4 : Array CpInfo := pool [(1, u "java/io/Serializable"), (0, .class_ 1), (0, u "java/lang/Object"), (0, .class_ 3)] 3

/-- java/io/Serializable -/
def k4 : Class := { plain "java/io/Serializable" (some 0) with
  accessFlags := 1537
  interfaces := #[]
  cf := some (fileOf pool4 2 #[] #[] 1537 4 #[] #[])
  fields := #[]
  methods := #[]
  instanceTypes := #[]
  staticTypes := #[]
  resolved := Array.replicate 8 none
  statics := none }

/-- the primitive byte -/
def k5 : Class := { plain "byte" none with kind := .primitive 'B', accessFlags := 0x411 }
/-- [B -/
def k6 : Class := { plain "[B" (some 0) with kind := .array 5 .byte, interfaces := #[3, 4], accessFlags := 1041 }

/-- the primitive int -/
def k7 : Class := { plain "int" none with kind := .primitive 'I', accessFlags := 0x411 }
/-- [I -/
def k8 : Class := { plain "[I" (some 0) with kind := .array 7 .int, interfaces := #[3, 4], accessFlags := 1041 }

/-- the primitive long -/
def k9 : Class := { plain "long" none with kind := .primitive 'J', accessFlags := 0x411 }
/-- [J -/
def k10 : Class := { plain "[J" (some 0) with kind := .array 9 .long, interfaces := #[3, 4], accessFlags := 1041 }

def heap : Heap := #[]
def classes : Array Class := #[k0, k1, k2, k3, k4, k5, k6, k7, k8, k9, k10]
def interned : List (Array UInt16 × Addr) := []
def slotsUsed : Nat := 0
def theMethod : MethodId := ⟨1, 1⟩
def args0 : Array Value := #[.int 5, .long 3, .int 7]
def aboutOver (below : List Frame) : State where
  vm := { classes := classes, interned := interned.toArray }
  heap := heap
  slotsUsed := slotsUsed
  threads := #[{ frames := .invoking theMethod args0 :: below }]
def below0 : List Frame := [.native { method := ⟨0, 0⟩, args := #[] }]
def about1 : State := aboutOver below0
def p0 : Program := .bare "" "" ""
def e0 : Env := launch0.env 0 0 0
theorem w_frames : about1.frames = Frame.invoking theMethod args0 :: below0 := rfl
set_option maxRecDepth 65536 in
theorem w_args : argsFit about1.vm theMethod args0 = true := by decide +kernel
set_option maxRecDepth 65536 in
theorem w_heap : heapFits about1 = true := by decide +kernel
set_option maxRecDepth 65536 in
theorem w_runnable : about1.curStatus? = some .runnable := by decide +kernel
set_option maxRecDepth 65536 in
theorem w_alone : about1.alone = true := by decide +kernel
set_option maxRecDepth 65536 in
theorem w_named : about1.methodNamed? x = some theMethod := by decide +kernel
set_option maxRecDepth 65536 in
theorem w_hears : about1.hears theMethod below0 = true := by decide +kernel
set_option maxRecDepth 65536 in
theorem w_ripe : about1.ripe theMethod args0 below0 = true := by decide +kernel
theorem w_running : about1.status = .running := rfl
set_option maxRecDepth 65536 in
theorem w_room : about1.hasRoom e0.platform room_1 = true :=
  launch0.hasRoom_least _ room_1 (by decide +kernel) (by decide +kernel) (by decide +kernel) (by decide +kernel) (by decide +kernel) (by decide +kernel)
theorem allAtoms_all (ts : List Jvm.Cond) (a : Array Jvm.Value) (st : Jvm.State) : (allAtoms ts).before a st = ts.all (fun c => c.before a st) := by
  induction ts with
  | nil => rfl
  | cons c t ih =>
    show (Jvm.Cond.and c (allAtoms t)).before a st = _
    rw [Jvm.Cond.before_and, ih, List.all_cons]
def words1 : List Jvm.Cond := Jvm.Cond.code x code maxLocals ret :: tables_1
/-- a 'code' word, met by the world's own term for the bytes: nothing is compared byte by byte -/
theorem code_word {y : MethodName} {bytes : ByteArray} {mx : Nat} {rt : Option FieldType} {a : Array Value} {s : State} {m : MethodId} {meth : Method} {c : Code} (h1 : s.methodNamed? y = some m) (h2 : s.vm.method? m = some meth) (h3 : meth.code = some c) (h4 : c.code = bytes)
    (h5 : (c.maxLocals == mx && c.exceptionTable.isEmpty && decide (c.maxStack ≤ mostOperands) && decide (meth.sig.returnType = rt) && !meth.locks && decide (parseMethodDescriptor y.desc = some meth.sig)) = true) : (Jvm.Cond.code y bytes mx rt).before a s = true := by
  simp only [Bool.and_eq_true, beq_iff_eq, Bool.not_eq_true', decide_eq_true_eq] at h5
  obtain ⟨⟨⟨⟨⟨g1, g2⟩, g3⟩, g4⟩, g5⟩, g6⟩ := h5
  simp [Cond.before, Cond.holds, Cond.value, h1, h2, h3, h4, g1, g2, g3, g4, g5, g6]
def isCode : Jvm.Cond → Bool
  | .code _ _ _ _ => true
  | _ => false
theorem all_split {L : List Jvm.Cond} {P : Jvm.Cond → Bool} (h1 : L.all (fun c => isCode c || P c) = true) (h2 : ∀ c ∈ L.filter isCode, P c = true) : L.all P = true := by
  refine List.all_eq_true.mpr fun c hc => ?_
  have h := List.all_eq_true.mp h1 c hc
  rcases Bool.eq_false_or_eq_true (isCode c) with hi | hi
  · exact h2 c (List.mem_filter.mpr ⟨hc, hi⟩)
  · simpa [hi] using h
set_option maxRecDepth 65536 in
theorem w_c0 : (Jvm.Cond.code x code maxLocals ret).before args0 about1 = true := code_word (m := ⟨1, 1⟩) (meth := k1m1) (c := k1c1) (by decide +kernel) rfl rfl rfl (by decide +kernel)
set_option maxRecDepth 65536 in
theorem w_c1 : (Jvm.Cond.code ({ cls := "com/example/tynemouth/tynemouth/control/PoolOccupancy", name := "<init>", desc := "(I)V" } : Jvm.MethodName) prog_26_method_1_code (2 : Nat) (Option.none : Option Jvm.ClassFile.FieldType)).before args0 about1 = true := code_word (m := ⟨2, 0⟩) (meth := k2m0) (c := k2c0) (by decide +kernel) rfl rfl rfl (by decide +kernel)
set_option maxRecDepth 65536 in
theorem w_c2 : (Jvm.Cond.code ({ cls := "java/lang/Object", name := "<init>", desc := "()V" } : Jvm.MethodName) object_method_1_code (1 : Nat) (Option.none : Option Jvm.ClassFile.FieldType)).before args0 about1 = true := code_word (m := ⟨0, 0⟩) (meth := k0m0) (c := k0c0) (by decide +kernel) rfl rfl rfl (by decide +kernel)
set_option maxRecDepth 65536 in
theorem w_c3 : (Jvm.Cond.code ({ cls := "com/example/tynemouth/tynemouth/control/PoolOccupancy", name := "admitBelow", desc := "(IJ)Z" } : Jvm.MethodName) prog_26_method_2_code (5 : Nat) (Option.some Jvm.ClassFile.FieldType.boolean)).before args0 about1 = true := code_word (m := ⟨2, 1⟩) (meth := k2m1) (c := k2c1) (by decide +kernel) rfl rfl rfl (by decide +kernel)
def codes1 : List Jvm.Cond := [Jvm.Cond.code x code maxLocals ret, Jvm.Cond.code ({ cls := "com/example/tynemouth/tynemouth/control/PoolOccupancy", name := "<init>", desc := "(I)V" } : Jvm.MethodName) prog_26_method_1_code (2 : Nat) (Option.none : Option Jvm.ClassFile.FieldType), Jvm.Cond.code ({ cls := "java/lang/Object", name := "<init>", desc := "()V" } : Jvm.MethodName) object_method_1_code (1 : Nat) (Option.none : Option Jvm.ClassFile.FieldType), Jvm.Cond.code ({ cls := "com/example/tynemouth/tynemouth/control/PoolOccupancy", name := "admitBelow", desc := "(IJ)Z" } : Jvm.MethodName) prog_26_method_2_code (5 : Nat) (Option.some Jvm.ClassFile.FieldType.boolean)]
set_option maxRecDepth 65536 in
theorem codes_eq : words1.filter isCode = codes1 := rfl
theorem w_codes : ∀ c ∈ words1.filter isCode, c.before args0 about1 = true := by
  rw [codes_eq]
  intro c hc
  simp only [codes1, List.mem_cons, List.not_mem_nil, or_false] at hc
  rcases hc with rfl | rfl | rfl | rfl
  · exact w_c0
  · exact w_c1
  · exact w_c2
  · exact w_c3
set_option maxRecDepth 65536 in
theorem w_t1 : words1.all (fun c => isCode c || c.before args0 about1) = true := by decide +kernel
theorem w_tables : (allAtoms (Jvm.Cond.code x code maxLocals ret :: tables_1)).before args0 about1 = true := by
  rw [allAtoms_all]
  show words1.all (fun c => c.before args0 about1) = true
  refine all_split ?_ w_codes
  rw [w_t1]
set_option maxRecDepth 65536 in
theorem w_case : (Jvm.Cond.and given_1 narrow_1).before args0 about1 = true := by decide +kernel
theorem w_applies : (headSpec (Jvm.Cond.code x code maxLocals ret :: tables_1) room_1).applies x e0.platform about1 = true :=
  (Spec.applies_iff w_frames).mpr ⟨w_running, w_runnable, w_alone, w_named, w_hears, w_ripe, w_room, w_tables⟩
theorem atStart : AtStart classFile x code maxLocals ret World_1 tables_1 room_1 Calls_1 rest_1 Pre_1 launch0 p0 e0 about1 theMethod args0 below0 :=
  ⟨lists_1, trivial, launch0.admits_env _ _ _, launch0.least_env, fairChoices_fair.cas, fairChoices_fair.clock, w_frames, w_args, w_heap, w_applies, trivial, trivial, w_case⟩
end start1
theorem witness_1 : WitnessClaimed_1 := ⟨start1.p0, start1.e0, start1.about1, start1.theMethod, start1.args0, start1.below0, start1.atStart⟩
end Jvm.Pilot.@@N@@
