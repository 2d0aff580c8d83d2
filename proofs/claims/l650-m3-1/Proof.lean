import JvmDerived
import JvmDerived.Pilot.@@N@@Statement
import JvmDerived.Pilot.@@N@@Code
set_option linter.unusedVariables false
set_option linter.unusedSimpArgs false
set_option maxHeartbeats 2000000
namespace Jvm.Pilot.@@N@@
open Jvm Jvm.ClassFile Sem Op Lib Jvm.Free Jvm.Stand Jvm.LawKit Jvm.RoadKit Bundle Jvm.Pilot.@@N@@.Jvm.D
section OwnKit
variable {p : Program} {l : Launch} {e : Env} {R : Room} {s : State} {m : MethodId} {args : Array Value} {below : List Frame} {meth : Method} {c : Code} {T : State} {locs : List Loc} {cells slots : Nat} {Z : State} {h h' : Heap} {a b : Addr}
def OwnWp (p : Program) (e : Env) (below : List Frame) (s : State) (C S : Nat) (Q : Option Value → Heap → List Loc → Prop) (U : State) : Prop :=
  ∃ s₂ o, Steps p.tables e below U s₂ ∧ s₂.status = .running ∧ Ended s₂ below o ∧ ∃ v L, o = .returned v ∧ Q v s₂.heap L ∧ FrameEnd s o s₂ L C S
variable {C S : Nat} {Q : Option Value → Heap → List Loc → Prop}
theorem OwnWp.step {U U' : State} (hs : ∀ t, Steps p.tables e below U' t → Steps p.tables e below U t) (k : OwnWp p e below s C S Q U') : OwnWp p e below s C S Q U := by
  obtain ⟨s2, o, h1, r⟩ := k
  exact ⟨s2, o, hs _ h1, r⟩
theorem OwnWp.go {U U' : State} (hs : Steps p.tables e below U U') (k : OwnWp p e below s C S Q U') : OwnWp p e below s C S Q U := k.step fun _ q => hs.trans q
theorem OwnWp.cast {g g' : JFrame} (q : g = g') (k : OwnWp p e below s C S Q (T.setTop g')) : OwnWp p e below s C S Q (T.setTop g) := q ▸ k
theorem OwnWp.retI (X : Stand p l e R s m args below meth c T locs cells slots) (hx : p.tables.exec = Jvm.exec) (hlk : meth.locks = false) (hret : meth.sig.returnType = some .int) {pc : Nat} {Ls : Array Slot} {z : Int32} {rest : List Value} (hd : decode c.code pc = .ok (.ireturn, 1)) (hC : cells ≤ C) (hS : slots ≤ S) (hQ : Q (some (.int z)) T.heap locs) :
    OwnWp p e below s C S Q (T.setTop (mkF m pc Ls (.int z :: rest))) := by
  obtain ⟨fs, hr, hrun, hended, hW, hsame⟩ := X.leave (v := some (.int z)) (fun h => by rw [hret] at h; cases h) hlk
  exact ⟨_, _, retOut X hx hret rfl (Or.inl ⟨rfl, Or.inl rfl, z, rfl⟩) hd hr, hrun, hended, _, _, rfl, hQ, ⟨_, rfl⟩, hW, hsame.mono hC hS⟩
theorem OwnWp.retJ (X : Stand p l e R s m args below meth c T locs cells slots) (hx : p.tables.exec = Jvm.exec) (hlk : meth.locks = false) (hret : meth.sig.returnType = some .long) {pc : Nat} {Ls : Array Slot} {z : Int64} {rest : List Value} (hd : decode c.code pc = .ok (.lreturn, 1)) (hC : cells ≤ C) (hS : slots ≤ S) (hQ : Q (some (.long z)) T.heap locs) :
    OwnWp p e below s C S Q (T.setTop (mkF m pc Ls (.long z :: rest))) := by
  obtain ⟨fs, hr, hrun, hended, hW, hsame⟩ := X.leave (v := some (.long z)) (fun h => by rw [hret] at h; cases h) hlk
  exact ⟨_, _, retOut X hx hret rfl (Or.inr (Or.inl ⟨rfl, rfl, z, rfl⟩)) hd hr, hrun, hended, _, _, rfl, hQ, ⟨_, rfl⟩, hW, hsame.mono hC hS⟩
theorem OwnWp.retA (X : Stand p l e R s m args below meth c T locs cells slots) (hx : p.tables.exec = Jvm.exec) (hlk : meth.locks = false) {t : FieldType} (hret : meth.sig.returnType = some t) (ht : t.isReference = true) {pc : Nat} {Ls : Array Slot} {z : Addr} {rest : List Value} (hn : narrow t (.ref z) = .ref z) (hd : decode c.code pc = .ok (.areturn, 1)) (hC : cells ≤ C) (hS : slots ≤ S) (hQ : Q (some (.ref z)) T.heap locs) :
    OwnWp p e below s C S Q (T.setTop (mkF m pc Ls (.ref z :: rest))) := by
  obtain ⟨fs, hr, hrun, hended, hW, hsame⟩ := X.leave (v := some (.ref z)) (fun h => by rw [hret] at h; cases h) hlk
  exact ⟨_, _, retOut X hx hret hn (Or.inr (Or.inr (Or.inr (Or.inr ⟨rfl, ht, rfl⟩)))) hd hr, hrun, hended, _, _, rfl, hQ, ⟨_, rfl⟩, hW, hsame.mono hC hS⟩
theorem OwnWp.retZ (X : Stand p l e R s m args below meth c T locs cells slots) (hx : p.tables.exec = Jvm.exec) (hlk : meth.locks = false) (hret : meth.sig.returnType = some .boolean) {pc : Nat} {Ls : Array Slot} {z : Int32} {rest : List Value} (hd : decode c.code pc = .ok (.ireturn, 1)) (hC : cells ≤ C) (hS : slots ≤ S) (hz : z = 0 ∨ z = 1) (hQ : Q (some (.int z)) T.heap locs) :
    OwnWp p e below s C S Q (T.setTop (mkF m pc Ls (.int z :: rest))) := by
  have hn : nar .boolean z = z := by rcases hz with rfl | rfl <;> rfl
  obtain ⟨fs, hr, hrun, hended, hW, hsame⟩ := X.leave (v := some (.int (nar .boolean z))) (fun h => by rw [hret] at h; cases h) hlk
  exact ⟨_, _, retN X hx hret (Or.inl rfl) hd hr, hrun, hended, _, _, rfl, by rw [hn]; exact hQ, ⟨_, rfl⟩, hW, hsame.mono hC hS⟩
theorem OwnWp.retV (X : Stand p l e R s m args below meth c T locs cells slots) (hx : p.tables.exec = Jvm.exec) (hlk : meth.locks = false) (hret : meth.sig.returnType = none) {pc : Nat} {Ls : Array Slot} (hd : decode c.code pc = .ok (.return_, 1)) (hC : cells ≤ C) (hS : slots ≤ S) (hQ : Q none T.heap locs) :
    OwnWp p e below s C S Q (T.setTop (mkF m pc Ls [])) := by
  obtain ⟨fs, hr, hrun, hended, hW, hsame⟩ := X.leave (v := none) (fun _ => rfl) hlk
  exact ⟨_, _, X.returnOut hx hret hd hr, hrun, hended, _, _, rfl, hQ, ⟨_, rfl⟩, hW, hsame.mono hC hS⟩
theorem own_widen {cells' slots' : Nat} (X : Stand p l e R s m args below meth c T locs cells slots) (h1 : cells ≤ cells') (h2 : slots ≤ slots') : Stand p l e R s m args below meth c T locs cells' slots' := { X with same := X.same.mono h1 h2 }
theorem own_lrem {g : JFrame} {target : State} (X : Stand p l e R s m args below meth c T locs cells slots) (hx : p.tables.exec = Jvm.exec) (hg : g.method = m) {x y : Int64} {rest : List Value} (hd : decode c.code g.pc = .ok (.lrem, 1)) (hs : g.stack = .long y :: .long x :: rest) (hy : y ≠ 0)
    (hr : Steps p.tables e below (T.setTop { g with pc := g.pc + 1, stack := .long (x % y) :: rest }) target) : Steps p.tables e below (T.setTop g) target :=
  XT.lrem X.here hx hg hd hs hy (by rw [lrem_mod]; exact hr)
/-- an array: its kind, its length, what place i holds -/
def OwnA (Z : State) (h : Heap) (a : Addr) (ty : FieldType) (n : Int32) (f : Int → Value) : Prop :=
  ∃ cl : Cell, Arr Z h a cl ty ∧ (cl.slots.size : Int) = n.toInt ∧ ∀ i : Int, 0 ≤ i → i < n.toInt → cl.slots[i.toNat]? = some (f i)
def ownUpd {α : Type} (f : Int → α) (j : Int) (x : α) : Int → α := fun i => if i = j then x else f i
theorem ownUpd_same {α : Type} (f : Int → α) (j : Int) (x : α) : ownUpd f j x j = x := if_pos rfl
theorem ownUpd_ne {α : Type} (f : Int → α) (j : Int) (x : α) {i : Int} (q : i ≠ j) : ownUpd f j x i = f i := if_neg q
variable {ty : FieldType} {n : Int32} {f : Int → Value} {ws : List Addr}
theorem OwnA.lt (F : OwnA Z h a ty n f) : a < h.size := by obtain ⟨_, A, -⟩ := F; exact A.lt
theorem OwnA.ext (F : OwnA Z h a ty n f) (E : Ext h h') : OwnA Z h' a ty n f := by obtain ⟨cl, A, r⟩ := F; exact ⟨cl, A.ext E, r⟩
theorem OwnA.keep (F : OwnA Z h a ty n f) (K : Keep h h' ws) (q : a ∉ ws) : OwnA Z h' a ty n f := by obtain ⟨cl, A, r⟩ := F; exact ⟨cl, ⟨K.2.1 a cl A.1 q, A.2⟩, r⟩
theorem OwnA.other {sl : Nat} {v : Value} (F : OwnA Z h b ty n f) (W : Wr h h' a sl v) (q : b ≠ a) : OwnA Z h' b ty n f := by obtain ⟨cl, A, r⟩ := F; exact ⟨cl, A.other W q, r⟩
theorem OwnA.len (F : OwnA Z h a ty n f) : 0 ≤ n.toInt := by obtain ⟨cl, _, r, _⟩ := F; omega
theorem OwnA.congr {f' : Int → Value} (F : OwnA Z h a ty n f) (q : ∀ i, 0 ≤ i → i < n.toInt → f i = f' i) : OwnA Z h a ty n f' := by obtain ⟨cl, A, r1, r2⟩ := F; exact ⟨cl, A, r1, fun i h1 h2 => by rw [← q i h1 h2]; exact r2 i h1 h2⟩
theorem own_clamp (j : Int32) : j.toNatClampNeg = j.toInt.toNat := rfl
theorem own_in {cl : Cell} {j : Int32} (r : (cl.slots.size : Int) = n.toInt) (h1 : 0 ≤ j.toInt) (h2 : j.toInt < n.toInt) : ¬ (j < 0 ∨ cl.slots.size ≤ j.toNatClampNeg) := by
  rw [own_clamp, Int32.lt_iff_toInt_lt, Int32.toInt_zero]; omega
theorem OwnA.new {k : ClassId} {z : Int32} (A : Arr Z h a (newA k ty z) ty) (q : 0 ≤ z.toInt) : OwnA Z h a ty z (fun _ => defaultValue ty) := by
  refine ⟨_, A, ?_, fun i h1 h2 => ?_⟩
  · rw [sz_new, own_clamp]; omega
  · have hi : i.toNat < z.toNatClampNeg := by rw [own_clamp]; omega
    show (Array.replicate z.toNatClampNeg (defaultValue ty))[i.toNat]? = _
    rw [Array.getElem?_replicate, if_pos hi]
theorem OwnA.set {j : Int32} {v : Value} (F : OwnA Z h a ty n f) (h1 : 0 ≤ j.toInt) (h2 : j.toInt < n.toInt) (W : Wr h h' a j.toNatClampNeg v) : OwnA Z h' a ty n (ownUpd f j.toInt v) := by
  obtain ⟨cl, A, r1, r2⟩ := F
  refine ⟨_, A.same W, by rw [sz_set]; exact r1, fun i g1 g2 => ?_⟩
  by_cases q : i = j.toInt
  · subst q
    rw [ownUpd_same]
    have hi : j.toNatClampNeg < cl.slots.size := by rw [own_clamp]; omega
    exact Array.getElem?_setIfInBounds_self_of_lt hi
  · rw [ownUpd_ne _ _ _ q, ← r2 i g1 g2, own_clamp]
    exact Array.getElem?_setIfInBounds_ne (by omega)
variable {g : JFrame} {target : State} {rest : List Value} {j : Int32}
theorem OwnA.alen (X : Stand p l e R s m args below meth c T locs cells slots) (hx : p.tables.exec = Jvm.exec) (hZ : Z.Warmed39 s.vm) (eT : T.heap = h) (F : OwnA Z h a ty n f) (hg : g.method = m) (hs : g.stack = .ref a :: rest) (hd : decode c.code g.pc = .ok (.arraylength, 1))
    (hr : Steps p.tables e below (T.setTop { g with pc := g.pc + 1, stack := .int n :: rest }) target) : Steps p.tables e below (T.setTop g) target := by
  obtain ⟨cl, A, r1, r2⟩ := F
  subst eT
  refine X.arraylength hx A.1 (State.isArrayOf_alike hZ.alike A.2.1) hg hs hd target ?_
  have q : cl.slots.size.toInt32 = n := by
    have q0 : cl.slots.size = n.toNatClampNeg := by rw [own_clamp]; omega
    exact len_of q0 (by rw [Int32.lt_iff_toInt_lt, Int32.toInt_zero]; omega)
  rw [q]; exact hr
theorem OwnA.ldI (X : Stand p l e R s m args below meth c T locs cells slots) (hx : p.tables.exec = Jvm.exec) (hZ : Z.Warmed39 s.vm) (eT : T.heap = h) (F : OwnA Z h a .int n f) (h1 : 0 ≤ j.toInt) (h2 : j.toInt < n.toInt) (hg : g.method = m) (hs : g.stack = .int j :: .ref a :: rest) (hd : decode c.code g.pc = .ok (.iaload, 1))
    (hr : Steps p.tables e below (T.setTop { g with pc := g.pc + 1, stack := f j.toInt :: rest }) target) : Steps p.tables e below (T.setTop g) target := by
  obtain ⟨cl, A, r1, r2⟩ := F
  subst eT
  exact X.iaload hx A.1 (State.isArrayOf_alike hZ.alike A.2.1) A.2.2 (own_in r1 h1 h2) (r2 _ h1 h2) hg hs hd target hr
theorem OwnA.ldJ (X : Stand p l e R s m args below meth c T locs cells slots) (hx : p.tables.exec = Jvm.exec) (hZ : Z.Warmed39 s.vm) (eT : T.heap = h) (F : OwnA Z h a .long n f) (h1 : 0 ≤ j.toInt) (h2 : j.toInt < n.toInt) (hg : g.method = m) (hs : g.stack = .int j :: .ref a :: rest) (hd : decode c.code g.pc = .ok (.laload, 1))
    (hr : Steps p.tables e below (T.setTop { g with pc := g.pc + 1, stack := f j.toInt :: rest }) target) : Steps p.tables e below (T.setTop g) target := by
  obtain ⟨cl, A, r1, r2⟩ := F
  subst eT
  exact X.laload hx A.1 (State.isArrayOf_alike hZ.alike A.2.1) A.2.2 (own_in r1 h1 h2) (r2 _ h1 h2) hg hs hd target hr
theorem OwnA.ldC (X : Stand p l e R s m args below meth c T locs cells slots) (hx : p.tables.exec = Jvm.exec) (hZ : Z.Warmed39 s.vm) (eT : T.heap = h) (F : OwnA Z h a .char n f) (h1 : 0 ≤ j.toInt) (h2 : j.toInt < n.toInt) (hg : g.method = m) (hs : g.stack = .int j :: .ref a :: rest) (hd : decode c.code g.pc = .ok (.caload, 1))
    (hr : Steps p.tables e below (T.setTop { g with pc := g.pc + 1, stack := f j.toInt :: rest }) target) : Steps p.tables e below (T.setTop g) target := by
  obtain ⟨cl, A, r1, r2⟩ := F
  subst eT
  exact X.caload hx A.1 (State.isArrayOf_alike hZ.alike A.2.1) A.2.2 (own_in r1 h1 h2) (r2 _ h1 h2) hg hs hd target hr
theorem OwnA.ldB (X : Stand p l e R s m args below meth c T locs cells slots) (hx : p.tables.exec = Jvm.exec) (hZ : Z.Warmed39 s.vm) (eT : T.heap = h) (F : OwnA Z h a .byte n f) (h1 : 0 ≤ j.toInt) (h2 : j.toInt < n.toInt) (hg : g.method = m) (hs : g.stack = .int j :: .ref a :: rest) (hd : decode c.code g.pc = .ok (.baload, 1))
    (hr : Steps p.tables e below (T.setTop { g with pc := g.pc + 1, stack := f j.toInt :: rest }) target) : Steps p.tables e below (T.setTop g) target := by
  obtain ⟨cl, A, r1, r2⟩ := F
  subst eT
  exact X.baloadBytes hx A.1 (State.isArrayOf_alike hZ.alike A.2.1) A.2.2 (own_in r1 h1 h2) (r2 _ h1 h2) hg hs hd target hr
theorem OwnA.ldZ (X : Stand p l e R s m args below meth c T locs cells slots) (hx : p.tables.exec = Jvm.exec) (hZ : Z.Warmed39 s.vm) (eT : T.heap = h) (F : OwnA Z h a .boolean n f) (h1 : 0 ≤ j.toInt) (h2 : j.toInt < n.toInt) (hg : g.method = m) (hs : g.stack = .int j :: .ref a :: rest) (hd : decode c.code g.pc = .ok (.baload, 1))
    (hr : Steps p.tables e below (T.setTop { g with pc := g.pc + 1, stack := f j.toInt :: rest }) target) : Steps p.tables e below (T.setTop g) target := by
  obtain ⟨cl, A, r1, r2⟩ := F
  subst eT
  exact X.baloadBooleans hx A.1 (State.isArrayOf_alike hZ.alike A.2.1) A.2.2 (own_in r1 h1 h2) (r2 _ h1 h2) hg hs hd target hr
theorem own_frs {k : Nat} {sl : Nat} (N : Fr k locs) (q : k ≤ a) : Fr k (locs ++ [⟨a, sl⟩]) := N.app fun y hy => by cases List.mem_singleton.mp hy; exact q
theorem OwnA.stI {n0 : Nat} {x : Int32} (X : Stand p l e R s m args below meth c T locs cells slots) (hx : p.tables.exec = Jvm.exec) (hZ : Z.Warmed39 s.vm) (eT : T.heap = h) (N : Fr n0 locs) (q : n0 ≤ a) (F : OwnA Z h a .int n f) (h1 : 0 ≤ j.toInt) (h2 : j.toInt < n.toInt) (hg : g.method = m) (hs : g.stack = .int x :: .int j :: .ref a :: rest) (hd : decode c.code g.pc = .ok (.iastore, 1)) :
    ∃ T' h' L', Stand p l e R s m args below meth c T' L' cells slots ∧ T'.heap = h' ∧ Fr n0 L' ∧ Keep h h' [a] ∧ OwnA Z h' a .int n (ownUpd f j.toInt (.int x)) ∧ ∀ target, Steps p.tables e below (T'.setTop { g with pc := g.pc + 1, stack := rest }) target → Steps p.tables e below (T.setTop g) target := by
  obtain ⟨cl, A, r1, r2⟩ := id F
  obtain ⟨T', h', X', e', W, st⟩ := RoadKit.stI X hx hZ eT A (own_in r1 h1 h2) hg hs hd
  exact ⟨T', h', _, X', e', own_frs N q, Keep.of_wr W, F.set h1 h2 W, st⟩
theorem OwnA.stJ {n0 : Nat} {x : Int64} (X : Stand p l e R s m args below meth c T locs cells slots) (hx : p.tables.exec = Jvm.exec) (hZ : Z.Warmed39 s.vm) (eT : T.heap = h) (N : Fr n0 locs) (q : n0 ≤ a) (F : OwnA Z h a .long n f) (h1 : 0 ≤ j.toInt) (h2 : j.toInt < n.toInt) (hg : g.method = m) (hs : g.stack = .long x :: .int j :: .ref a :: rest) (hd : decode c.code g.pc = .ok (.lastore, 1)) :
    ∃ T' h' L', Stand p l e R s m args below meth c T' L' cells slots ∧ T'.heap = h' ∧ Fr n0 L' ∧ Keep h h' [a] ∧ OwnA Z h' a .long n (ownUpd f j.toInt (.long x)) ∧ ∀ target, Steps p.tables e below (T'.setTop { g with pc := g.pc + 1, stack := rest }) target → Steps p.tables e below (T.setTop g) target := by
  obtain ⟨cl, A, r1, r2⟩ := id F
  obtain ⟨T', h', X', e', W, st⟩ := RoadKit.stJ X hx hZ eT A (own_in r1 h1 h2) hg hs hd
  exact ⟨T', h', _, X', e', own_frs N q, Keep.of_wr W, F.set h1 h2 W, st⟩
theorem OwnA.stC {n0 : Nat} {x : Int32} (X : Stand p l e R s m args below meth c T locs cells slots) (hx : p.tables.exec = Jvm.exec) (hZ : Z.Warmed39 s.vm) (eT : T.heap = h) (N : Fr n0 locs) (q : n0 ≤ a) (F : OwnA Z h a .char n f) (h1 : 0 ≤ j.toInt) (h2 : j.toInt < n.toInt) (hg : g.method = m) (hs : g.stack = .int x :: .int j :: .ref a :: rest) (hd : decode c.code g.pc = .ok (.castore, 1)) :
    ∃ T' h' L', Stand p l e R s m args below meth c T' L' cells slots ∧ T'.heap = h' ∧ Fr n0 L' ∧ Keep h h' [a] ∧ OwnA Z h' a .char n (ownUpd f j.toInt (.int (nar .char x))) ∧ ∀ target, Steps p.tables e below (T'.setTop { g with pc := g.pc + 1, stack := rest }) target → Steps p.tables e below (T.setTop g) target := by
  obtain ⟨cl, A, r1, r2⟩ := id F
  obtain ⟨T', h', X', e', W, st⟩ := RoadKit.stC X hx hZ eT A (own_in r1 h1 h2) hg hs hd
  exact ⟨T', h', _, X', e', own_frs N q, Keep.of_wr W, F.set h1 h2 W, st⟩
theorem OwnA.stB {n0 : Nat} {x : Int32} (X : Stand p l e R s m args below meth c T locs cells slots) (hx : p.tables.exec = Jvm.exec) (hZ : Z.Warmed39 s.vm) (eT : T.heap = h) (N : Fr n0 locs) (q : n0 ≤ a) (F : OwnA Z h a .byte n f) (h1 : 0 ≤ j.toInt) (h2 : j.toInt < n.toInt) (hg : g.method = m) (hs : g.stack = .int x :: .int j :: .ref a :: rest) (hd : decode c.code g.pc = .ok (.bastore, 1)) :
    ∃ T' h' L', Stand p l e R s m args below meth c T' L' cells slots ∧ T'.heap = h' ∧ Fr n0 L' ∧ Keep h h' [a] ∧ OwnA Z h' a .byte n (ownUpd f j.toInt (.int (nar .byte x))) ∧ ∀ target, Steps p.tables e below (T'.setTop { g with pc := g.pc + 1, stack := rest }) target → Steps p.tables e below (T.setTop g) target := by
  obtain ⟨cl, A, r1, r2⟩ := id F
  obtain ⟨T', h', X', e', W, st⟩ := RoadKit.stB X hx hZ eT A (own_in r1 h1 h2) hg hs hd
  exact ⟨T', h', _, X', e', own_frs N q, Keep.of_wr W, F.set h1 h2 W, st⟩
theorem OwnA.stZ {n0 : Nat} {x : Int32} (X : Stand p l e R s m args below meth c T locs cells slots) (hx : p.tables.exec = Jvm.exec) (hZ : Z.Warmed39 s.vm) (eT : T.heap = h) (N : Fr n0 locs) (q : n0 ≤ a) (F : OwnA Z h a .boolean n f) (h1 : 0 ≤ j.toInt) (h2 : j.toInt < n.toInt) (hg : g.method = m) (hs : g.stack = .int x :: .int j :: .ref a :: rest) (hd : decode c.code g.pc = .ok (.bastore, 1)) :
    ∃ T' h' L', Stand p l e R s m args below meth c T' L' cells slots ∧ T'.heap = h' ∧ Fr n0 L' ∧ Keep h h' [a] ∧ OwnA Z h' a .boolean n (ownUpd f j.toInt (.int (nar .boolean x))) ∧ ∀ target, Steps p.tables e below (T'.setTop { g with pc := g.pc + 1, stack := rest }) target → Steps p.tables e below (T.setTop g) target := by
  obtain ⟨cl, A, r1, r2⟩ := id F
  obtain ⟨T', h', X', e', W, st⟩ := RoadKit.stZ X hx hZ eT A (own_in r1 h1 h2) hg hs hd
  exact ⟨T', h', _, X', e', own_frs N q, Keep.of_wr W, F.set h1 h2 W, st⟩
end OwnKit
theorem own_ofi {n : Int} (h1 : -2147483648 ≤ n) (h2 : n < 2147483648) : (Int32.ofInt n).toInt = n := by
  rw [Int32.toInt_ofInt, show Int32.size = 4294967296 from rfl, Int.bmod_eq_of_le (by omega) (by omega)]
theorem own_ofj {n : Int} (h1 : -9223372036854775808 ≤ n) (h2 : n < 9223372036854775808) : (Int64.ofInt n).toInt = n := by
  rw [Int64.toInt_ofInt, show Int64.size = 18446744073709551616 from rfl, Int.bmod_eq_of_le (by omega) (by omega)]
/-- an int between 0 and n is one of finitely many -/
theorem own_fin {x : Int32} {n : Nat} (h1 : 0 ≤ x.toInt) (h2 : x.toInt < n) : ∃ k : Fin n, x = Int32.ofInt (k.1 : Int) := by
  have h3 := x.toInt_lt
  refine ⟨⟨x.toInt.toNat, by omega⟩, Int32.toInt_inj.mp ?_⟩
  show _ = (Int32.ofInt ((x.toInt.toNat : Nat) : Int)).toInt
  rw [own_ofi (by omega) (by omega)]; omega
theorem d2_0 : decode prog_9_method_5_code 0 = .ok (.lload_n 0, 1) := by decide +kernel
theorem d2_1 : decode prog_9_method_5_code 1 = .ok (.lconst 1, 1) := by decide +kernel
theorem d2_2 : decode prog_9_method_5_code 2 = .ok (.lcmp, 1) := by decide +kernel
theorem d2_3 : decode prog_9_method_5_code 3 = .ok (.ifCond .lt 11, 3) := by decide +kernel
theorem d2_6 : decode prog_9_method_5_code 6 = .ok (.lload_n 0, 1) := by decide +kernel
theorem d2_7 : decode prog_9_method_5_code 7 = .ok (.ldc2_w 48, 3) := by decide +kernel
theorem d2_10 : decode prog_9_method_5_code 10 = .ok (.lcmp, 1) := by decide +kernel
theorem d2_11 : decode prog_9_method_5_code 11 = .ok (.ifCond .le 17, 3) := by decide +kernel
theorem d2_28 : decode prog_9_method_5_code 28 = .ok (.return_, 1) := by decide +kernel
theorem pn_2 : plainFor (⟨"com/example/aldaba/aldaba/Quorum", "checkLeaseLength", "(J)V"⟩ : MethodName) = true := plainFor_of_name (by first | (simp [plainName, overriddenIn]; done) | decide +kernel)
theorem pd_2 : parseMethodDescriptor "(J)V" = some ⟨[.long], none⟩ := by decide +kernel
theorem ef_2 (m : MethodId) (x0 : Int64) : entryFrame m #[(.long x0)] 2 = mkF m 0 #[.val (.long x0), .second] [] := by first | (simp [entryFrame, mkF, argsToLocals, Value.category, maxLocals]; done) | rfl
def Q2 (Z : State) (p1 : Int64)  (h0 : Heap) (n0 : Nat) (v : Option Value) (h : Heap) (L : List Loc) : Prop := v = none ∧ Fr n0 L ∧ h = h0
set_option maxRecDepth 65536 in
set_option maxHeartbeats 40000000 in
theorem rm2 (l : Launch) (Z : State) (a0 : Array Value) (hw : ∀ d ∈ tables_1, d.before a0 Z = true) (ws : List Jvm.Cond) (p1 : Int64)  (h0 : Heap) (n0 : Nat) (Z0 : n0 ≤ h0.size) (hA : ¬ p1 < (1 : Int64)) (hB : ¬ (9223372036854 : Int64) < p1) :
    MetFree l (⟨"com/example/aldaba/aldaba/Quorum", "checkLeaseLength", "(J)V"⟩ : MethodName) (head1 (Jvm.Cond.code (⟨"com/example/aldaba/aldaba/Quorum", "checkLeaseLength", "(J)V"⟩ : MethodName) prog_9_method_5_code 2 none :: ws) ({ frames := 0, cells := 0, slots := 0, locals := 0 } : Room)) (fun a U => a = #[(.long p1)] ∧ Z.Warmed39 U.vm ∧ U.heap = h0) (fun _ _ _ _ _ => True) (fun _ U o U' => ∃ v L, o = .returned v ∧ Q2 Z p1  h0 n0 v U'.heap L ∧ FrameEnd U o U' L ({ frames := 0, cells := 0, slots := 0, locals := 0 } : Room).cells ({ frames := 0, cells := 0, slots := 0, locals := 0 } : Room).slots) := by
  refine MetFree.of_bodySF pn_2 hisR ?_
  intro p e s m args below meth c s₁ Bd hml0 hP hK
  obtain ⟨rfl, hZ, hh⟩ := hP
  have hx := Bd.exec
  have hby := Bd.bytes
  have hlk := BodyLoose.notSynchronized Bd
  have hml : c.maxLocals = 2 := hml0
  have hown : s.vm.findClass "com/example/aldaba/aldaba/Quorum" = some m.cls := findClass_of_methodNamed Bd.named
  have hnm := (name_of_methodNamed Bd.named Bd.method).1
  have X0 : Stand p l e ({ frames := 0, cells := 0, slots := 0, locals := 0 } : Room) s m #[(.long p1)] below meth c s₁ [] 0 0 := Stand.of_body Bd
  have e0 : s₁.heap = h0 := by rw [← hh, Bd.state]; rfl
  have N0 := Fr.nil n0
  show OwnWp p e below s ({ frames := 0, cells := 0, slots := 0, locals := 0 } : Room).cells ({ frames := 0, cells := 0, slots := 0, locals := 0 } : Room).slots (Q2 Z p1  h0 n0) (s₁.setTop (entryFrame m #[(.long p1)] 2))
  refine OwnWp.cast (ef_2 m p1) ?_
  show OwnWp p e below s _ _ _ (s₁.setTop (mkF m 0 #[.val (.long p1), .second] []))
  refine OwnWp.step (U' := s₁.setTop (mkF m 28 #[.val (.long p1), .second] [])) (fun t k => ?_) ?_
  · show Steps p.tables e below (s₁.setTop (mkF m 0 #[.val (.long p1), .second] [])) _
    refine XT.lloadN X0.here hx rfl (hb hby d2_0) rfl ?_
    show Steps p.tables e below (s₁.setTop (mkF m 1 #[.val (.long p1), .second] [(.long p1)])) _
    refine XT.lconstV X0.here hx rfl (1 : Int64) (hb hby d2_1) rfl ?_
    show Steps p.tables e below (s₁.setTop (mkF m 2 #[.val (.long p1), .second] [(.long (1 : Int64)), (.long p1)])) _
    refine XT.lcmp X0.here hx rfl (hb hby d2_2) rfl ?_
    show Steps p.tables e below (s₁.setTop (mkF m 3 #[.val (.long p1), .second] [(.int (XT.cmpL p1 (1 : Int64)))])) _
    refine XS.ifNo X0.here hx rfl (hb hby d2_3) rfl (XT.ll_lt_f hA) ?_
    show Steps p.tables e below (s₁.setTop (mkF m 6 #[.val (.long p1), .second] [])) _
    refine XT.lloadN X0.here hx rfl (hb hby d2_6) rfl ?_
    show Steps p.tables e below (s₁.setTop (mkF m 7 #[.val (.long p1), .second] [(.long p1)])) _
    refine X0.ldc2J hx hown (mvT hZ (hw _ (List.mem_of_getElem? (i := 9) rfl))) rfl (hb hby d2_7) ?_
    show Steps p.tables e below (s₁.setTop (mkF m 10 #[.val (.long p1), .second] [(.long (9223372036854 : Int64)), (.long p1)])) _
    refine XT.lcmp X0.here hx rfl (hb hby d2_10) rfl ?_
    show Steps p.tables e below (s₁.setTop (mkF m 11 #[.val (.long p1), .second] [(.int (XT.cmpL p1 (9223372036854 : Int64)))])) _
    refine XS.ifYes X0.here hx rfl (pc0 := 11) (pc' := 28) rfl (hb hby d2_11) rfl (XT.ll_le_t hB) (by decide) (by decide) ?_
    show Steps p.tables e below (s₁.setTop (mkF m 28 #[.val (.long p1), .second] [])) _
    exact k
  refine OwnWp.retV X0 hx hlk Bd.returns (hb hby d2_28) (by decide) (by decide) ?_
  exact ⟨rfl, N0, e0⟩
theorem d3_0 : decode jdk_29_method_49_code 0 = .ok (.lload_n 0, 1) := by decide +kernel
theorem d3_1 : decode jdk_29_method_49_code 1 = .ok (.lload_n 2, 1) := by decide +kernel
theorem d3_2 : decode jdk_29_method_49_code 2 = .ok (.ldiv, 1) := by decide +kernel
theorem d3_3 : decode jdk_29_method_49_code 3 = .ok (.lstore 4, 2) := by decide +kernel
theorem d3_5 : decode jdk_29_method_49_code 5 = .ok (.lload_n 0, 1) := by decide +kernel
theorem d3_6 : decode jdk_29_method_49_code 6 = .ok (.lload_n 2, 1) := by decide +kernel
theorem d3_7 : decode jdk_29_method_49_code 7 = .ok (.lxor, 1) := by decide +kernel
theorem d3_8 : decode jdk_29_method_49_code 8 = .ok (.lconst 0, 1) := by decide +kernel
theorem d3_9 : decode jdk_29_method_49_code 9 = .ok (.lcmp, 1) := by decide +kernel
theorem d3_10 : decode jdk_29_method_49_code 10 = .ok (.ifCond .ge 17, 3) := by decide +kernel
theorem d3_13 : decode jdk_29_method_49_code 13 = .ok (.lload 4, 2) := by decide +kernel
theorem d3_15 : decode jdk_29_method_49_code 15 = .ok (.lload_n 2, 1) := by decide +kernel
theorem d3_16 : decode jdk_29_method_49_code 16 = .ok (.lmul, 1) := by decide +kernel
theorem d3_17 : decode jdk_29_method_49_code 17 = .ok (.lload_n 0, 1) := by decide +kernel
theorem d3_18 : decode jdk_29_method_49_code 18 = .ok (.lcmp, 1) := by decide +kernel
theorem d3_19 : decode jdk_29_method_49_code 19 = .ok (.ifCond .eq 8, 3) := by decide +kernel
theorem d3_22 : decode jdk_29_method_49_code 22 = .ok (.lload 4, 2) := by decide +kernel
theorem d3_24 : decode jdk_29_method_49_code 24 = .ok (.lconst 1, 1) := by decide +kernel
theorem d3_25 : decode jdk_29_method_49_code 25 = .ok (.lsub, 1) := by decide +kernel
theorem d3_26 : decode jdk_29_method_49_code 26 = .ok (.lreturn, 1) := by decide +kernel
theorem d3_27 : decode jdk_29_method_49_code 27 = .ok (.lload 4, 2) := by decide +kernel
theorem d3_29 : decode jdk_29_method_49_code 29 = .ok (.lreturn, 1) := by decide +kernel
theorem pn_3 : plainFor (⟨"java/lang/Math", "floorDiv", "(JJ)J"⟩ : MethodName) = true := Jvm.Free.JP.mathPlain rfl (by decide +kernel)
theorem pd_3 : parseMethodDescriptor "(JJ)J" = some ⟨[.long, .long], some .long⟩ := by decide +kernel
theorem ef_3 (m : MethodId) (x0 : Int64) (x1 : Int64) : entryFrame m #[(.long x0), (.long x1)] 6 = mkF m 0 #[.val (.long x0), .second, .val (.long x1), .second, .unset, .unset] [] := by first | (simp [entryFrame, mkF, argsToLocals, Value.category, maxLocals]; done) | rfl
def own_f3_w1 (p1 : Int64) (p2 : Int64) : Int64 := (p1 / p2)
def own_f3 (p1 : Int64) (p2 : Int64) : Int64 := (if (p1 ^^^ p2) < (0 : Int64) then (if ((own_f3_w1 p1 p2) * p2) = p1 then (own_f3_w1 p1 p2) else ((own_f3_w1 p1 p2) - (1 : Int64))) else (own_f3_w1 p1 p2))
def Q3 (Z : State) (p1 : Int64) (p2 : Int64)  (h0 : Heap) (n0 : Nat) (v : Option Value) (h : Heap) (L : List Loc) : Prop := v = some (.long (own_f3 p1 p2)) ∧ Fr n0 L ∧ h = h0
set_option maxRecDepth 65536 in
set_option maxHeartbeats 40000000 in
theorem rm3 (l : Launch) (Z : State) (a0 : Array Value) (hw : ∀ d ∈ tables_1, d.before a0 Z = true) (ws : List Jvm.Cond) (p1 : Int64) (p2 : Int64)  (h0 : Heap) (n0 : Nat) (Z0 : n0 ≤ h0.size) (hD : p2 ≠ 0) :
    MetFree l (⟨"java/lang/Math", "floorDiv", "(JJ)J"⟩ : MethodName) (head1 (Jvm.Cond.code (⟨"java/lang/Math", "floorDiv", "(JJ)J"⟩ : MethodName) jdk_29_method_49_code 6 (some .long) :: ws) ({ frames := 0, cells := 0, slots := 0, locals := 0 } : Room)) (fun a U => a = #[(.long p1), (.long p2)] ∧ Z.Warmed39 U.vm ∧ U.heap = h0) (fun _ _ _ _ _ => True) (fun _ U o U' => ∃ v L, o = .returned v ∧ Q3 Z p1 p2  h0 n0 v U'.heap L ∧ FrameEnd U o U' L ({ frames := 0, cells := 0, slots := 0, locals := 0 } : Room).cells ({ frames := 0, cells := 0, slots := 0, locals := 0 } : Room).slots) := by
  refine MetFree.of_bodySF pn_3 hisR ?_
  intro p e s m args below meth c s₁ Bd hml0 hP hK
  obtain ⟨rfl, hZ, hh⟩ := hP
  have hx := Bd.exec
  have hby := Bd.bytes
  have hlk := BodyLoose.notSynchronized Bd
  have hml : c.maxLocals = 6 := hml0
  have hown : s.vm.findClass "java/lang/Math" = some m.cls := findClass_of_methodNamed Bd.named
  have hnm := (name_of_methodNamed Bd.named Bd.method).1
  have X0 : Stand p l e ({ frames := 0, cells := 0, slots := 0, locals := 0 } : Room) s m #[(.long p1), (.long p2)] below meth c s₁ [] 0 0 := Stand.of_body Bd
  have e0 : s₁.heap = h0 := by rw [← hh, Bd.state]; rfl
  have N0 := Fr.nil n0
  show OwnWp p e below s ({ frames := 0, cells := 0, slots := 0, locals := 0 } : Room).cells ({ frames := 0, cells := 0, slots := 0, locals := 0 } : Room).slots (Q3 Z p1 p2  h0 n0) (s₁.setTop (entryFrame m #[(.long p1), (.long p2)] 6))
  refine OwnWp.cast (ef_3 m p1 p2) ?_
  show OwnWp p e below s _ _ _ (s₁.setTop (mkF m 0 #[.val (.long p1), .second, .val (.long p2), .second, .unset, .unset] []))
  obtain ⟨w1, qw1⟩ : ∃ z : Int64, z = (p1 / p2) := ⟨_, rfl⟩
  refine OwnWp.step (U' := s₁.setTop (mkF m 5 #[.val (.long p1), .second, .val (.long p2), .second, .val (.long w1), .second] [])) (fun t k => ?_) ?_
  · show Steps p.tables e below (s₁.setTop (mkF m 0 #[.val (.long p1), .second, .val (.long p2), .second, .unset, .unset] [])) _
    refine XT.lloadN X0.here hx rfl (hb hby d3_0) rfl ?_
    show Steps p.tables e below (s₁.setTop (mkF m 1 #[.val (.long p1), .second, .val (.long p2), .second, .unset, .unset] [(.long p1)])) _
    refine XT.lloadN X0.here hx rfl (hb hby d3_1) rfl ?_
    show Steps p.tables e below (s₁.setTop (mkF m 2 #[.val (.long p1), .second, .val (.long p2), .second, .unset, .unset] [(.long p2), (.long p1)])) _
    refine XT.ldiv X0.here hx rfl (hb hby d3_2) rfl hD ?_
    show Steps p.tables e below (s₁.setTop (mkF m 3 #[.val (.long p1), .second, .val (.long p2), .second, .unset, .unset] [(.long (p1 / p2))])) _
    refine XT.lstore X0.here hx rfl (hb hby d3_3) rfl (l' := #[.val (.long p1), .second, .val (.long p2), .second, .val (.long (p1 / p2)), .second]) rfl ?_
    show Steps p.tables e below (s₁.setTop (mkF m 5 #[.val (.long p1), .second, .val (.long p2), .second, .val (.long (p1 / p2)), .second] [])) _
    rw [qw1] at k
    exact k
  refine OwnWp.step (U' := s₁.setTop (mkF m 10 #[.val (.long p1), .second, .val (.long p2), .second, .val (.long w1), .second] [(.int (XT.cmpL (p1 ^^^ p2) (0 : Int64)))])) (fun t k => ?_) ?_
  · show Steps p.tables e below (s₁.setTop (mkF m 5 #[.val (.long p1), .second, .val (.long p2), .second, .val (.long w1), .second] [])) _
    refine XT.lloadN X0.here hx rfl (hb hby d3_5) rfl ?_
    show Steps p.tables e below (s₁.setTop (mkF m 6 #[.val (.long p1), .second, .val (.long p2), .second, .val (.long w1), .second] [(.long p1)])) _
    refine XT.lloadN X0.here hx rfl (hb hby d3_6) rfl ?_
    show Steps p.tables e below (s₁.setTop (mkF m 7 #[.val (.long p1), .second, .val (.long p2), .second, .val (.long w1), .second] [(.long p2), (.long p1)])) _
    refine XT.lxor X0.here hx rfl (hb hby d3_7) rfl ?_
    show Steps p.tables e below (s₁.setTop (mkF m 8 #[.val (.long p1), .second, .val (.long p2), .second, .val (.long w1), .second] [(.long (p1 ^^^ p2))])) _
    refine XT.lconstV X0.here hx rfl (0 : Int64) (hb hby d3_8) rfl ?_
    show Steps p.tables e below (s₁.setTop (mkF m 9 #[.val (.long p1), .second, .val (.long p2), .second, .val (.long w1), .second] [(.long (0 : Int64)), (.long (p1 ^^^ p2))])) _
    refine XT.lcmp X0.here hx rfl (hb hby d3_9) rfl ?_
    show Steps p.tables e below (s₁.setTop (mkF m 10 #[.val (.long p1), .second, .val (.long p2), .second, .val (.long w1), .second] [(.int (XT.cmpL (p1 ^^^ p2) (0 : Int64)))])) _
    exact k
  by_cases c10_1 : (p1 ^^^ p2) < (0 : Int64)
  · refine OwnWp.step (U' := s₁.setTop (mkF m 13 #[.val (.long p1), .second, .val (.long p2), .second, .val (.long w1), .second] [])) (fun t k => ?_) ?_
    · show Steps p.tables e below (s₁.setTop (mkF m 10 #[.val (.long p1), .second, .val (.long p2), .second, .val (.long w1), .second] [(.int (XT.cmpL (p1 ^^^ p2) (0 : Int64)))])) _
      refine XS.ifNo X0.here hx rfl (hb hby d3_10) rfl (XT.ll_ge_f c10_1) ?_
      exact k
    refine OwnWp.step (U' := s₁.setTop (mkF m 19 #[.val (.long p1), .second, .val (.long p2), .second, .val (.long w1), .second] [(.int (XT.cmpL (w1 * p2) p1))])) (fun t k => ?_) ?_
    · show Steps p.tables e below (s₁.setTop (mkF m 13 #[.val (.long p1), .second, .val (.long p2), .second, .val (.long w1), .second] [])) _
      refine XT.lload X0.here hx rfl (hb hby d3_13) rfl ?_
      show Steps p.tables e below (s₁.setTop (mkF m 15 #[.val (.long p1), .second, .val (.long p2), .second, .val (.long w1), .second] [(.long w1)])) _
      refine XT.lloadN X0.here hx rfl (hb hby d3_15) rfl ?_
      show Steps p.tables e below (s₁.setTop (mkF m 16 #[.val (.long p1), .second, .val (.long p2), .second, .val (.long w1), .second] [(.long p2), (.long w1)])) _
      refine XT.lmul X0.here hx rfl (hb hby d3_16) rfl ?_
      show Steps p.tables e below (s₁.setTop (mkF m 17 #[.val (.long p1), .second, .val (.long p2), .second, .val (.long w1), .second] [(.long (w1 * p2))])) _
      refine XT.lloadN X0.here hx rfl (hb hby d3_17) rfl ?_
      show Steps p.tables e below (s₁.setTop (mkF m 18 #[.val (.long p1), .second, .val (.long p2), .second, .val (.long w1), .second] [(.long p1), (.long (w1 * p2))])) _
      refine XT.lcmp X0.here hx rfl (hb hby d3_18) rfl ?_
      show Steps p.tables e below (s₁.setTop (mkF m 19 #[.val (.long p1), .second, .val (.long p2), .second, .val (.long w1), .second] [(.int (XT.cmpL (w1 * p2) p1))])) _
      exact k
    by_cases c19_2 : (w1 * p2) = p1
    · refine OwnWp.step (U' := s₁.setTop (mkF m 27 #[.val (.long p1), .second, .val (.long p2), .second, .val (.long w1), .second] [])) (fun t k => ?_) ?_
      · show Steps p.tables e below (s₁.setTop (mkF m 19 #[.val (.long p1), .second, .val (.long p2), .second, .val (.long w1), .second] [(.int (XT.cmpL (w1 * p2) p1))])) _
        refine XS.ifYes X0.here hx rfl (pc0 := 19) (pc' := 27) rfl (hb hby d3_19) rfl (XT.ll_eq_t c19_2) (by decide) (by decide) ?_
        exact k
      refine OwnWp.step (U' := s₁.setTop (mkF m 29 #[.val (.long p1), .second, .val (.long p2), .second, .val (.long w1), .second] [(.long w1)])) (fun t k => ?_) ?_
      · show Steps p.tables e below (s₁.setTop (mkF m 27 #[.val (.long p1), .second, .val (.long p2), .second, .val (.long w1), .second] [])) _
        refine XT.lload X0.here hx rfl (hb hby d3_27) rfl ?_
        show Steps p.tables e below (s₁.setTop (mkF m 29 #[.val (.long p1), .second, .val (.long p2), .second, .val (.long w1), .second] [(.long w1)])) _
        exact k
      refine OwnWp.retJ X0 hx hlk Bd.returns (hb hby d3_29) (by decide) (by decide) ?_
      refine ⟨?_, N0, e0⟩
      show some (Value.long w1) = some (.long (own_f3 p1 p2))
      subst qw1
      unfold own_f3 own_f3_w1
      rw [if_pos c10_1, if_pos c19_2]
    · refine OwnWp.step (U' := s₁.setTop (mkF m 22 #[.val (.long p1), .second, .val (.long p2), .second, .val (.long w1), .second] [])) (fun t k => ?_) ?_
      · show Steps p.tables e below (s₁.setTop (mkF m 19 #[.val (.long p1), .second, .val (.long p2), .second, .val (.long w1), .second] [(.int (XT.cmpL (w1 * p2) p1))])) _
        refine XS.ifNo X0.here hx rfl (hb hby d3_19) rfl (XT.ll_eq_f c19_2) ?_
        exact k
      refine OwnWp.step (U' := s₁.setTop (mkF m 26 #[.val (.long p1), .second, .val (.long p2), .second, .val (.long w1), .second] [(.long (w1 - (1 : Int64)))])) (fun t k => ?_) ?_
      · show Steps p.tables e below (s₁.setTop (mkF m 22 #[.val (.long p1), .second, .val (.long p2), .second, .val (.long w1), .second] [])) _
        refine XT.lload X0.here hx rfl (hb hby d3_22) rfl ?_
        show Steps p.tables e below (s₁.setTop (mkF m 24 #[.val (.long p1), .second, .val (.long p2), .second, .val (.long w1), .second] [(.long w1)])) _
        refine XT.lconstV X0.here hx rfl (1 : Int64) (hb hby d3_24) rfl ?_
        show Steps p.tables e below (s₁.setTop (mkF m 25 #[.val (.long p1), .second, .val (.long p2), .second, .val (.long w1), .second] [(.long (1 : Int64)), (.long w1)])) _
        refine XT.lsub X0.here hx rfl (hb hby d3_25) rfl ?_
        show Steps p.tables e below (s₁.setTop (mkF m 26 #[.val (.long p1), .second, .val (.long p2), .second, .val (.long w1), .second] [(.long (w1 - (1 : Int64)))])) _
        exact k
      refine OwnWp.retJ X0 hx hlk Bd.returns (hb hby d3_26) (by decide) (by decide) ?_
      refine ⟨?_, N0, e0⟩
      show some (Value.long (w1 - (1 : Int64))) = some (.long (own_f3 p1 p2))
      subst qw1
      unfold own_f3 own_f3_w1
      rw [if_pos c10_1, if_neg c19_2]
  · refine OwnWp.step (U' := s₁.setTop (mkF m 27 #[.val (.long p1), .second, .val (.long p2), .second, .val (.long w1), .second] [])) (fun t k => ?_) ?_
    · show Steps p.tables e below (s₁.setTop (mkF m 10 #[.val (.long p1), .second, .val (.long p2), .second, .val (.long w1), .second] [(.int (XT.cmpL (p1 ^^^ p2) (0 : Int64)))])) _
      refine XS.ifYes X0.here hx rfl (pc0 := 10) (pc' := 27) rfl (hb hby d3_10) rfl (XT.ll_ge_t c10_1) (by decide) (by decide) ?_
      exact k
    refine OwnWp.step (U' := s₁.setTop (mkF m 29 #[.val (.long p1), .second, .val (.long p2), .second, .val (.long w1), .second] [(.long w1)])) (fun t k => ?_) ?_
    · show Steps p.tables e below (s₁.setTop (mkF m 27 #[.val (.long p1), .second, .val (.long p2), .second, .val (.long w1), .second] [])) _
      refine XT.lload X0.here hx rfl (hb hby d3_27) rfl ?_
      show Steps p.tables e below (s₁.setTop (mkF m 29 #[.val (.long p1), .second, .val (.long p2), .second, .val (.long w1), .second] [(.long w1)])) _
      exact k
    refine OwnWp.retJ X0 hx hlk Bd.returns (hb hby d3_29) (by decide) (by decide) ?_
    refine ⟨?_, N0, e0⟩
    show some (Value.long w1) = some (.long (own_f3 p1 p2))
    subst qw1
    unfold own_f3 own_f3_w1
    rw [if_neg c10_1]
theorem d1_0 : decode prog_9_method_4_code 0 = .ok (.lload_n 0, 1) := by decide +kernel
theorem d1_1 : decode prog_9_method_4_code 1 = .ok (.invokestatic 31, 3) := by decide +kernel
theorem d1_4 : decode prog_9_method_4_code 4 = .ok (.lload_n 2, 1) := by decide +kernel
theorem d1_5 : decode prog_9_method_4_code 5 = .ok (.lconst 0, 1) := by decide +kernel
theorem d1_6 : decode prog_9_method_4_code 6 = .ok (.lcmp, 1) := by decide +kernel
theorem d1_7 : decode prog_9_method_4_code 7 = .ok (.ifCond .ge 17, 3) := by decide +kernel
theorem d1_24 : decode prog_9_method_4_code 24 = .ok (.lload_n 0, 1) := by decide +kernel
theorem d1_25 : decode prog_9_method_4_code 25 = .ok (.ldc2_w 38, 3) := by decide +kernel
theorem d1_28 : decode prog_9_method_4_code 28 = .ok (.lmul, 1) := by decide +kernel
theorem d1_29 : decode prog_9_method_4_code 29 = .ok (.lstore 4, 2) := by decide +kernel
theorem d1_31 : decode prog_9_method_4_code 31 = .ok (.lload_n 0, 1) := by decide +kernel
theorem d1_32 : decode prog_9_method_4_code 32 = .ok (.ldc2_w 40, 3) := by decide +kernel
theorem d1_35 : decode prog_9_method_4_code 35 = .ok (.lmul, 1) := by decide +kernel
theorem d1_36 : decode prog_9_method_4_code 36 = .ok (.lstore 6, 2) := by decide +kernel
theorem d1_38 : decode prog_9_method_4_code 38 = .ok (.lload 4, 2) := by decide +kernel
theorem d1_40 : decode prog_9_method_4_code 40 = .ok (.lload 6, 2) := by decide +kernel
theorem d1_42 : decode prog_9_method_4_code 42 = .ok (.lsub, 1) := by decide +kernel
theorem d1_43 : decode prog_9_method_4_code 43 = .ok (.lload_n 2, 1) := by decide +kernel
theorem d1_44 : decode prog_9_method_4_code 44 = .ok (.lsub, 1) := by decide +kernel
theorem d1_45 : decode prog_9_method_4_code 45 = .ok (.lstore 8, 2) := by decide +kernel
theorem d1_47 : decode prog_9_method_4_code 47 = .ok (.lload 8, 2) := by decide +kernel
theorem d1_49 : decode prog_9_method_4_code 49 = .ok (.ldc2_w 38, 3) := by decide +kernel
theorem d1_52 : decode prog_9_method_4_code 52 = .ok (.invokestatic 42, 3) := by decide +kernel
theorem d1_55 : decode prog_9_method_4_code 55 = .ok (.lreturn, 1) := by decide +kernel
theorem pn_1 : plainFor (⟨"com/example/aldaba/aldaba/Quorum", "validityMillis", "(JJ)J"⟩ : MethodName) = true := plainFor_of_name (by first | (simp [plainName, overriddenIn]; done) | decide +kernel)
theorem pd_1 : parseMethodDescriptor "(JJ)J" = some ⟨[.long, .long], some .long⟩ := by decide +kernel
theorem ef_1 (m : MethodId) (x0 : Int64) (x1 : Int64) : entryFrame m #[(.long x0), (.long x1)] 10 = mkF m 0 #[.val (.long x0), .second, .val (.long x1), .second, .unset, .unset, .unset, .unset, .unset, .unset] [] := by first | (simp [entryFrame, mkF, argsToLocals, Value.category, maxLocals]; done) | rfl
def own_f1_w1 (p1 : Int64) (p2 : Int64) : Int64 := (p1 * (1000000 : Int64))
def own_f1_w2 (p1 : Int64) (p2 : Int64) : Int64 := (p1 * (10000 : Int64))
def own_f1_w3 (p1 : Int64) (p2 : Int64) : Int64 := (((own_f1_w1 p1 p2) - (own_f1_w2 p1 p2)) - p2)
def own_f1 (p1 : Int64) (p2 : Int64) : Int64 := (own_f3 (own_f1_w3 p1 p2) (1000000 : Int64))
def Q1 (Z : State) (p1 : Int64) (p2 : Int64)  (h0 : Heap) (n0 : Nat) (v : Option Value) (h : Heap) (L : List Loc) : Prop := v = some (.long (own_f1 p1 p2)) ∧ Fr n0 L ∧ h = h0
set_option maxRecDepth 65536 in
set_option maxHeartbeats 40000000 in
theorem rm1 (l : Launch) (Z : State) (a0 : Array Value) (hw : ∀ d ∈ tables_1, d.before a0 Z = true) (ws : List Jvm.Cond) (p1 : Int64) (p2 : Int64)  (h0 : Heap) (n0 : Nat) (Z0 : n0 ≤ h0.size) (hA : ¬ p1 < (1 : Int64)) (hB : ¬ (9223372036854 : Int64) < p1) (hC : ¬ p2 < (0 : Int64)) :
    MetFree l (⟨"com/example/aldaba/aldaba/Quorum", "validityMillis", "(JJ)J"⟩ : MethodName) (head1 (Jvm.Cond.code (⟨"com/example/aldaba/aldaba/Quorum", "validityMillis", "(JJ)J"⟩ : MethodName) prog_9_method_4_code 10 (some .long) :: ws) ({ frames := 1, cells := 0, slots := 0, locals := 17 } : Room)) (fun a U => a = #[(.long p1), (.long p2)] ∧ Z.Warmed39 U.vm ∧ U.heap = h0) (fun _ _ _ _ _ => True) (fun _ U o U' => ∃ v L, o = .returned v ∧ Q1 Z p1 p2  h0 n0 v U'.heap L ∧ FrameEnd U o U' L ({ frames := 1, cells := 0, slots := 0, locals := 17 } : Room).cells ({ frames := 1, cells := 0, slots := 0, locals := 17 } : Room).slots) := by
  refine MetFree.of_bodySF pn_1 hisR ?_
  intro p e s m args below meth c s₁ Bd hml0 hP hK
  obtain ⟨rfl, hZ, hh⟩ := hP
  have hx := Bd.exec
  have hby := Bd.bytes
  have hlk := BodyLoose.notSynchronized Bd
  have hml : c.maxLocals = 10 := hml0
  have hown : s.vm.findClass "com/example/aldaba/aldaba/Quorum" = some m.cls := findClass_of_methodNamed Bd.named
  have hnm := (name_of_methodNamed Bd.named Bd.method).1
  have X0 : Stand p l e ({ frames := 1, cells := 0, slots := 0, locals := 17 } : Room) s m #[(.long p1), (.long p2)] below meth c s₁ [] 0 0 := Stand.of_body Bd
  have e0 : s₁.heap = h0 := by rw [← hh, Bd.state]; rfl
  have N0 := Fr.nil n0
  show OwnWp p e below s ({ frames := 1, cells := 0, slots := 0, locals := 17 } : Room).cells ({ frames := 1, cells := 0, slots := 0, locals := 17 } : Room).slots (Q1 Z p1 p2  h0 n0) (s₁.setTop (entryFrame m #[(.long p1), (.long p2)] 10))
  refine OwnWp.cast (ef_1 m p1 p2) ?_
  show OwnWp p e below s _ _ _ (s₁.setTop (mkF m 0 #[.val (.long p1), .second, .val (.long p2), .second, .unset, .unset, .unset, .unset, .unset, .unset] []))
  refine OwnWp.step (U' := s₁.setTop (mkF m 1 #[.val (.long p1), .second, .val (.long p2), .second, .unset, .unset, .unset, .unset, .unset, .unset] [(.long p1)])) (fun t k => ?_) ?_
  · show Steps p.tables e below (s₁.setTop (mkF m 0 #[.val (.long p1), .second, .val (.long p2), .second, .unset, .unset, .unset, .unset, .unset, .unset] [])) _
    refine XT.lloadN X0.here hx rfl (hb hby d1_0) rfl ?_
    show Steps p.tables e below (s₁.setTop (mkF m 1 #[.val (.long p1), .second, .val (.long p2), .second, .unset, .unset, .unset, .unset, .unset, .unset] [(.long p1)])) _
    exact k
  show OwnWp p e below s _ _ _ (s₁.setTop (mkF m 1 #[.val (.long p1), .second, .val (.long p2), .second, .unset, .unset, .unset, .unset, .unset, .unset] [(.long p1)]))
  obtain ⟨_, _, ⟨T5, L5, k5, n5⟩, -, X5, ⟨Lc5, hQ5, l5, y5, z5⟩, st5⟩ := Jvm.LawKit.callS X0 hx (y := (⟨"com/example/aldaba/aldaba/Quorum", "checkLeaseLength", "(J)V"⟩ : MethodName)) hown (mvT hZ (hw _ (List.mem_of_getElem? (i := 6) rfl))) (mvT hZ (hw _ (List.mem_of_getElem? (i := 7) rfl))) (mvT hZ (hw _ (List.mem_of_getElem? (i := 4) rfl))) (mvT hZ (hw _ (List.mem_of_getElem? (i := 8) rfl))) (by decide) (backOf (W := 0) (rm2 l Z a0 hw [] p1 h0 n0 Z0 hA hB) hZ (hw _ (List.mem_of_getElem? (i := 8) rfl)) (hw _ (List.mem_of_getElem? (i := 4) rfl)) (by decide) (by decide)) (g := (mkF m 1 #[.val (.long p1), .second, .val (.long p2), .second, .unset, .unset, .unset, .unset, .unset, .unset] [(.long p1)])) rfl (by rw [hml]; rfl) (argsL := [(.long p1)]) (rest := []) (lenOf pd_2 rfl) rfl (by show 2 * 0 + _ ≤ _; exact Nat.le_of_eq rfl) (hb hby d1_1) (fun _ _ => ⟨rfl, e0, (by dsimp only [Pt.cells]; decide), (by dsimp only [Pt.slots]; decide)⟩)
  dsimp only [Pt.U, Pt.locs, Pt.cells, Pt.slots] at X5 l5 y5 z5 st5 hQ5
  subst l5 y5 z5
  obtain ⟨rfl, Nc5, hp5⟩ := hQ5
  have N5 := Fr.app N0 Nc5
  refine OwnWp.step st5 ?_
  have eh5 : T5.heap = h0 := hp5
  show OwnWp p e below s _ _ _ (T5.setTop (mkF m 4 #[.val (.long p1), .second, .val (.long p2), .second, .unset, .unset, .unset, .unset, .unset, .unset] []))
  obtain ⟨w1, qw1⟩ : ∃ z : Int64, z = (p1 * (1000000 : Int64)) := ⟨_, rfl⟩
  refine OwnWp.step (U' := T5.setTop (mkF m 31 #[.val (.long p1), .second, .val (.long p2), .second, .val (.long w1), .second, .unset, .unset, .unset, .unset] [])) (fun t k => ?_) ?_
  · show Steps p.tables e below (T5.setTop (mkF m 4 #[.val (.long p1), .second, .val (.long p2), .second, .unset, .unset, .unset, .unset, .unset, .unset] [])) _
    refine XT.lloadN X5.here hx rfl (hb hby d1_4) rfl ?_
    show Steps p.tables e below (T5.setTop (mkF m 5 #[.val (.long p1), .second, .val (.long p2), .second, .unset, .unset, .unset, .unset, .unset, .unset] [(.long p2)])) _
    refine XT.lconstV X5.here hx rfl (0 : Int64) (hb hby d1_5) rfl ?_
    show Steps p.tables e below (T5.setTop (mkF m 6 #[.val (.long p1), .second, .val (.long p2), .second, .unset, .unset, .unset, .unset, .unset, .unset] [(.long (0 : Int64)), (.long p2)])) _
    refine XT.lcmp X5.here hx rfl (hb hby d1_6) rfl ?_
    show Steps p.tables e below (T5.setTop (mkF m 7 #[.val (.long p1), .second, .val (.long p2), .second, .unset, .unset, .unset, .unset, .unset, .unset] [(.int (XT.cmpL p2 (0 : Int64)))])) _
    refine XS.ifYes X5.here hx rfl (pc0 := 7) (pc' := 24) rfl (hb hby d1_7) rfl (XT.ll_ge_t hC) (by decide) (by decide) ?_
    show Steps p.tables e below (T5.setTop (mkF m 24 #[.val (.long p1), .second, .val (.long p2), .second, .unset, .unset, .unset, .unset, .unset, .unset] [])) _
    refine XT.lloadN X5.here hx rfl (hb hby d1_24) rfl ?_
    show Steps p.tables e below (T5.setTop (mkF m 25 #[.val (.long p1), .second, .val (.long p2), .second, .unset, .unset, .unset, .unset, .unset, .unset] [(.long p1)])) _
    refine X5.ldc2J hx hown (mvT hZ (hw _ (List.mem_of_getElem? (i := 10) rfl))) rfl (hb hby d1_25) ?_
    show Steps p.tables e below (T5.setTop (mkF m 28 #[.val (.long p1), .second, .val (.long p2), .second, .unset, .unset, .unset, .unset, .unset, .unset] [(.long (1000000 : Int64)), (.long p1)])) _
    refine XT.lmul X5.here hx rfl (hb hby d1_28) rfl ?_
    show Steps p.tables e below (T5.setTop (mkF m 29 #[.val (.long p1), .second, .val (.long p2), .second, .unset, .unset, .unset, .unset, .unset, .unset] [(.long (p1 * (1000000 : Int64)))])) _
    refine XT.lstore X5.here hx rfl (hb hby d1_29) rfl (l' := #[.val (.long p1), .second, .val (.long p2), .second, .val (.long (p1 * (1000000 : Int64))), .second, .unset, .unset, .unset, .unset]) rfl ?_
    show Steps p.tables e below (T5.setTop (mkF m 31 #[.val (.long p1), .second, .val (.long p2), .second, .val (.long (p1 * (1000000 : Int64))), .second, .unset, .unset, .unset, .unset] [])) _
    rw [qw1] at k
    exact k
  obtain ⟨w2, qw2⟩ : ∃ z : Int64, z = (p1 * (10000 : Int64)) := ⟨_, rfl⟩
  refine OwnWp.step (U' := T5.setTop (mkF m 38 #[.val (.long p1), .second, .val (.long p2), .second, .val (.long w1), .second, .val (.long w2), .second, .unset, .unset] [])) (fun t k => ?_) ?_
  · show Steps p.tables e below (T5.setTop (mkF m 31 #[.val (.long p1), .second, .val (.long p2), .second, .val (.long w1), .second, .unset, .unset, .unset, .unset] [])) _
    refine XT.lloadN X5.here hx rfl (hb hby d1_31) rfl ?_
    show Steps p.tables e below (T5.setTop (mkF m 32 #[.val (.long p1), .second, .val (.long p2), .second, .val (.long w1), .second, .unset, .unset, .unset, .unset] [(.long p1)])) _
    refine X5.ldc2J hx hown (mvT hZ (hw _ (List.mem_of_getElem? (i := 11) rfl))) rfl (hb hby d1_32) ?_
    show Steps p.tables e below (T5.setTop (mkF m 35 #[.val (.long p1), .second, .val (.long p2), .second, .val (.long w1), .second, .unset, .unset, .unset, .unset] [(.long (10000 : Int64)), (.long p1)])) _
    refine XT.lmul X5.here hx rfl (hb hby d1_35) rfl ?_
    show Steps p.tables e below (T5.setTop (mkF m 36 #[.val (.long p1), .second, .val (.long p2), .second, .val (.long w1), .second, .unset, .unset, .unset, .unset] [(.long (p1 * (10000 : Int64)))])) _
    refine XT.lstore X5.here hx rfl (hb hby d1_36) rfl (l' := #[.val (.long p1), .second, .val (.long p2), .second, .val (.long w1), .second, .val (.long (p1 * (10000 : Int64))), .second, .unset, .unset]) rfl ?_
    show Steps p.tables e below (T5.setTop (mkF m 38 #[.val (.long p1), .second, .val (.long p2), .second, .val (.long w1), .second, .val (.long (p1 * (10000 : Int64))), .second, .unset, .unset] [])) _
    rw [qw2] at k
    exact k
  obtain ⟨w3, qw3⟩ : ∃ z : Int64, z = ((w1 - w2) - p2) := ⟨_, rfl⟩
  refine OwnWp.step (U' := T5.setTop (mkF m 47 #[.val (.long p1), .second, .val (.long p2), .second, .val (.long w1), .second, .val (.long w2), .second, .val (.long w3), .second] [])) (fun t k => ?_) ?_
  · show Steps p.tables e below (T5.setTop (mkF m 38 #[.val (.long p1), .second, .val (.long p2), .second, .val (.long w1), .second, .val (.long w2), .second, .unset, .unset] [])) _
    refine XT.lload X5.here hx rfl (hb hby d1_38) rfl ?_
    show Steps p.tables e below (T5.setTop (mkF m 40 #[.val (.long p1), .second, .val (.long p2), .second, .val (.long w1), .second, .val (.long w2), .second, .unset, .unset] [(.long w1)])) _
    refine XT.lload X5.here hx rfl (hb hby d1_40) rfl ?_
    show Steps p.tables e below (T5.setTop (mkF m 42 #[.val (.long p1), .second, .val (.long p2), .second, .val (.long w1), .second, .val (.long w2), .second, .unset, .unset] [(.long w2), (.long w1)])) _
    refine XT.lsub X5.here hx rfl (hb hby d1_42) rfl ?_
    show Steps p.tables e below (T5.setTop (mkF m 43 #[.val (.long p1), .second, .val (.long p2), .second, .val (.long w1), .second, .val (.long w2), .second, .unset, .unset] [(.long (w1 - w2))])) _
    refine XT.lloadN X5.here hx rfl (hb hby d1_43) rfl ?_
    show Steps p.tables e below (T5.setTop (mkF m 44 #[.val (.long p1), .second, .val (.long p2), .second, .val (.long w1), .second, .val (.long w2), .second, .unset, .unset] [(.long p2), (.long (w1 - w2))])) _
    refine XT.lsub X5.here hx rfl (hb hby d1_44) rfl ?_
    show Steps p.tables e below (T5.setTop (mkF m 45 #[.val (.long p1), .second, .val (.long p2), .second, .val (.long w1), .second, .val (.long w2), .second, .unset, .unset] [(.long ((w1 - w2) - p2))])) _
    refine XT.lstore X5.here hx rfl (hb hby d1_45) rfl (l' := #[.val (.long p1), .second, .val (.long p2), .second, .val (.long w1), .second, .val (.long w2), .second, .val (.long ((w1 - w2) - p2)), .second]) rfl ?_
    show Steps p.tables e below (T5.setTop (mkF m 47 #[.val (.long p1), .second, .val (.long p2), .second, .val (.long w1), .second, .val (.long w2), .second, .val (.long ((w1 - w2) - p2)), .second] [])) _
    rw [qw3] at k
    exact k
  refine OwnWp.step (U' := T5.setTop (mkF m 52 #[.val (.long p1), .second, .val (.long p2), .second, .val (.long w1), .second, .val (.long w2), .second, .val (.long w3), .second] [(.long (1000000 : Int64)), (.long w3)])) (fun t k => ?_) ?_
  · show Steps p.tables e below (T5.setTop (mkF m 47 #[.val (.long p1), .second, .val (.long p2), .second, .val (.long w1), .second, .val (.long w2), .second, .val (.long w3), .second] [])) _
    refine XT.lload X5.here hx rfl (hb hby d1_47) rfl ?_
    show Steps p.tables e below (T5.setTop (mkF m 49 #[.val (.long p1), .second, .val (.long p2), .second, .val (.long w1), .second, .val (.long w2), .second, .val (.long w3), .second] [(.long w3)])) _
    refine X5.ldc2J hx hown (mvT hZ (hw _ (List.mem_of_getElem? (i := 10) rfl))) rfl (hb hby d1_49) ?_
    show Steps p.tables e below (T5.setTop (mkF m 52 #[.val (.long p1), .second, .val (.long p2), .second, .val (.long w1), .second, .val (.long w2), .second, .val (.long w3), .second] [(.long (1000000 : Int64)), (.long w3)])) _
    exact k
  show OwnWp p e below s _ _ _ (T5.setTop (mkF m 52 #[.val (.long p1), .second, .val (.long p2), .second, .val (.long w1), .second, .val (.long w2), .second, .val (.long w3), .second] [(.long (1000000 : Int64)), (.long w3)]))
  obtain ⟨_, _, ⟨T6, L6, k6, n6⟩, -, X6, ⟨Lc6, hQ6, l6, y6, z6⟩, st6⟩ := Jvm.LawKit.callS X5 hx (y := (⟨"java/lang/Math", "floorDiv", "(JJ)J"⟩ : MethodName)) hown (mvT hZ (hw _ (List.mem_of_getElem? (i := 12) rfl))) (mvT hZ (hw _ (List.mem_of_getElem? (i := 13) rfl))) (mvT hZ (hw _ (List.mem_of_getElem? (i := 14) rfl))) (mvT hZ (hw _ (List.mem_of_getElem? (i := 15) rfl))) (by decide) (backOf (W := 0) (rm3 l Z a0 hw [] w3 (1000000 : Int64) h0 n0 Z0 (by decide)) hZ (hw _ (List.mem_of_getElem? (i := 15) rfl)) (hw _ (List.mem_of_getElem? (i := 14) rfl)) (by decide) (by decide)) (g := (mkF m 52 #[.val (.long p1), .second, .val (.long p2), .second, .val (.long w1), .second, .val (.long w2), .second, .val (.long w3), .second] [(.long (1000000 : Int64)), (.long w3)])) rfl (by rw [hml]; rfl) (argsL := [(.long w3), (.long (1000000 : Int64))]) (rest := []) (lenOf pd_3 rfl) rfl (by show 2 * 0 + _ ≤ _; exact Nat.le_of_eq rfl) (hb hby d1_52) (fun _ _ => ⟨rfl, eh5, (by dsimp only [Pt.cells]; decide), (by dsimp only [Pt.slots]; decide)⟩)
  dsimp only [Pt.U, Pt.locs, Pt.cells, Pt.slots] at X6 l6 y6 z6 st6 hQ6
  subst l6 y6 z6
  obtain ⟨rfl, Nc6, hp6⟩ := hQ6
  have N6 := Fr.app N5 Nc6
  refine OwnWp.step st6 ?_
  have eh6 : T6.heap = h0 := hp6
  show OwnWp p e below s _ _ _ (T6.setTop (mkF m 55 #[.val (.long p1), .second, .val (.long p2), .second, .val (.long w1), .second, .val (.long w2), .second, .val (.long w3), .second] [(.long (own_f3 w3 (1000000 : Int64)))]))
  refine OwnWp.retJ X6 hx hlk Bd.returns (hb hby d1_55) (by decide) (by decide) ?_
  refine ⟨?_, N6, eh6⟩
  show some (Value.long (own_f3 w3 (1000000 : Int64))) = some (.long (own_f1 p1 p2))
  subst qw3
  subst qw2
  subst qw1
  unfold own_f1 own_f1_w3 own_f1_w2 own_f1_w1
  rfl
theorem d4_0 : decode method_3_code 0 = .ok (.lload_n 2, 1) := by decide +kernel
theorem d4_1 : decode method_3_code 1 = .ok (.ldc2_w 24, 3) := by decide +kernel
theorem d4_4 : decode method_3_code 4 = .ok (.ldiv, 1) := by decide +kernel
theorem d4_5 : decode method_3_code 5 = .ok (.lstore 4, 2) := by decide +kernel
theorem d4_7 : decode method_3_code 7 = .ok (.lload_n 2, 1) := by decide +kernel
theorem d4_8 : decode method_3_code 8 = .ok (.ldc2_w 24, 3) := by decide +kernel
theorem d4_11 : decode method_3_code 11 = .ok (.lrem, 1) := by decide +kernel
theorem d4_12 : decode method_3_code 12 = .ok (.lstore 6, 2) := by decide +kernel
theorem d4_14 : decode method_3_code 14 = .ok (.lload_n 0, 1) := by decide +kernel
theorem d4_15 : decode method_3_code 15 = .ok (.ldc2_w 26, 3) := by decide +kernel
theorem d4_18 : decode method_3_code 18 = .ok (.lrem, 1) := by decide +kernel
theorem d4_19 : decode method_3_code 19 = .ok (.ldc2_w 28, 3) := by decide +kernel
theorem d4_22 : decode method_3_code 22 = .ok (.lmul, 1) := by decide +kernel
theorem d4_23 : decode method_3_code 23 = .ok (.lload 6, 2) := by decide +kernel
theorem d4_25 : decode method_3_code 25 = .ok (.ladd, 1) := by decide +kernel
theorem d4_26 : decode method_3_code 26 = .ok (.lstore 8, 2) := by decide +kernel
theorem d4_28 : decode method_3_code 28 = .ok (.lload 8, 2) := by decide +kernel
theorem d4_30 : decode method_3_code 30 = .ok (.lconst 0, 1) := by decide +kernel
theorem d4_31 : decode method_3_code 31 = .ok (.lcmp, 1) := by decide +kernel
theorem d4_32 : decode method_3_code 32 = .ok (.ifCond .ne 9, 3) := by decide +kernel
theorem d4_35 : decode method_3_code 35 = .ok (.lconst 0, 1) := by decide +kernel
theorem d4_36 : decode method_3_code 36 = .ok (.lstore 10, 2) := by decide +kernel
theorem d4_38 : decode method_3_code 38 = .ok (.goto 23, 3) := by decide +kernel
theorem d4_41 : decode method_3_code 41 = .ok (.lload 8, 2) := by decide +kernel
theorem d4_43 : decode method_3_code 43 = .ok (.ldc2_w 24, 3) := by decide +kernel
theorem d4_46 : decode method_3_code 46 = .ok (.lcmp, 1) := by decide +kernel
theorem d4_47 : decode method_3_code 47 = .ok (.ifCond .gt 9, 3) := by decide +kernel
theorem d4_50 : decode method_3_code 50 = .ok (.lconst 1, 1) := by decide +kernel
theorem d4_51 : decode method_3_code 51 = .ok (.lstore 10, 2) := by decide +kernel
theorem d4_53 : decode method_3_code 53 = .ok (.goto 8, 3) := by decide +kernel
theorem d4_56 : decode method_3_code 56 = .ok (.ldc2_w 30, 3) := by decide +kernel
theorem d4_59 : decode method_3_code 59 = .ok (.lstore 10, 2) := by decide +kernel
theorem d4_61 : decode method_3_code 61 = .ok (.lload_n 0, 1) := by decide +kernel
theorem d4_62 : decode method_3_code 62 = .ok (.lload_n 0, 1) := by decide +kernel
theorem d4_63 : decode method_3_code 63 = .ok (.ldc2_w 26, 3) := by decide +kernel
theorem d4_66 : decode method_3_code 66 = .ok (.ldiv, 1) := by decide +kernel
theorem d4_67 : decode method_3_code 67 = .ok (.lsub, 1) := by decide +kernel
theorem d4_68 : decode method_3_code 68 = .ok (.lload 4, 2) := by decide +kernel
theorem d4_70 : decode method_3_code 70 = .ok (.lsub, 1) := by decide +kernel
theorem d4_71 : decode method_3_code 71 = .ok (.lload 10, 2) := by decide +kernel
theorem d4_73 : decode method_3_code 73 = .ok (.lsub, 1) := by decide +kernel
theorem d4_74 : decode method_3_code 74 = .ok (.lreturn, 1) := by decide +kernel
theorem pn_4 : plainFor (⟨"com/example/aldaba/aldaba/QuorumValidityMillisPinLaw", "reference", "(JJ)J"⟩ : MethodName) = true := plainFor_of_name (by first | (simp [plainName, overriddenIn]; done) | decide +kernel)
theorem pd_4 : parseMethodDescriptor "(JJ)J" = some ⟨[.long, .long], some .long⟩ := by decide +kernel
theorem ef_4 (m : MethodId) (x0 : Int64) (x1 : Int64) : entryFrame m #[(.long x0), (.long x1)] 12 = mkF m 0 #[.val (.long x0), .second, .val (.long x1), .second, .unset, .unset, .unset, .unset, .unset, .unset, .unset, .unset] [] := by first | (simp [entryFrame, mkF, argsToLocals, Value.category, maxLocals]; done) | rfl
def own_f4_w1 (p1 : Int64) (p2 : Int64) : Int64 := (p2 / (1000000 : Int64))
def own_f4_w2 (p1 : Int64) (p2 : Int64) : Int64 := (p2 % (1000000 : Int64))
def own_f4_w3 (p1 : Int64) (p2 : Int64) : Int64 := (((p1 % (100 : Int64)) * (10000 : Int64)) + (own_f4_w2 p1 p2))
def own_f4_w4 (p1 : Int64) (p2 : Int64) : Int64 := (if (own_f4_w3 p1 p2) = (0 : Int64) then (0 : Int64) else (if (1000000 : Int64) < (own_f4_w3 p1 p2) then (2 : Int64) else (1 : Int64)))
def own_f4 (p1 : Int64) (p2 : Int64) : Int64 := (((p1 - (p1 / (100 : Int64))) - (own_f4_w1 p1 p2)) - (own_f4_w4 p1 p2))
def Q4 (Z : State) (p1 : Int64) (p2 : Int64)  (h0 : Heap) (n0 : Nat) (v : Option Value) (h : Heap) (L : List Loc) : Prop := v = some (.long (own_f4 p1 p2)) ∧ Fr n0 L ∧ h = h0
set_option maxRecDepth 65536 in
set_option maxHeartbeats 40000000 in
theorem rm4 (l : Launch) (Z : State) (a0 : Array Value) (hw : ∀ d ∈ tables_1, d.before a0 Z = true) (ws : List Jvm.Cond) (p1 : Int64) (p2 : Int64)  (h0 : Heap) (n0 : Nat) (Z0 : n0 ≤ h0.size)  :
    MetFree l (⟨"com/example/aldaba/aldaba/QuorumValidityMillisPinLaw", "reference", "(JJ)J"⟩ : MethodName) (head1 (Jvm.Cond.code (⟨"com/example/aldaba/aldaba/QuorumValidityMillisPinLaw", "reference", "(JJ)J"⟩ : MethodName) method_3_code 12 (some .long) :: ws) ({ frames := 0, cells := 0, slots := 0, locals := 0 } : Room)) (fun a U => a = #[(.long p1), (.long p2)] ∧ Z.Warmed39 U.vm ∧ U.heap = h0) (fun _ _ _ _ _ => True) (fun _ U o U' => ∃ v L, o = .returned v ∧ Q4 Z p1 p2  h0 n0 v U'.heap L ∧ FrameEnd U o U' L ({ frames := 0, cells := 0, slots := 0, locals := 0 } : Room).cells ({ frames := 0, cells := 0, slots := 0, locals := 0 } : Room).slots) := by
  refine MetFree.of_bodySF pn_4 hisR ?_
  intro p e s m args below meth c s₁ Bd hml0 hP hK
  obtain ⟨rfl, hZ, hh⟩ := hP
  have hx := Bd.exec
  have hby := Bd.bytes
  have hlk := BodyLoose.notSynchronized Bd
  have hml : c.maxLocals = 12 := hml0
  have hown : s.vm.findClass "com/example/aldaba/aldaba/QuorumValidityMillisPinLaw" = some m.cls := findClass_of_methodNamed Bd.named
  have hnm := (name_of_methodNamed Bd.named Bd.method).1
  have X0 : Stand p l e ({ frames := 0, cells := 0, slots := 0, locals := 0 } : Room) s m #[(.long p1), (.long p2)] below meth c s₁ [] 0 0 := Stand.of_body Bd
  have e0 : s₁.heap = h0 := by rw [← hh, Bd.state]; rfl
  have N0 := Fr.nil n0
  show OwnWp p e below s ({ frames := 0, cells := 0, slots := 0, locals := 0 } : Room).cells ({ frames := 0, cells := 0, slots := 0, locals := 0 } : Room).slots (Q4 Z p1 p2  h0 n0) (s₁.setTop (entryFrame m #[(.long p1), (.long p2)] 12))
  refine OwnWp.cast (ef_4 m p1 p2) ?_
  show OwnWp p e below s _ _ _ (s₁.setTop (mkF m 0 #[.val (.long p1), .second, .val (.long p2), .second, .unset, .unset, .unset, .unset, .unset, .unset, .unset, .unset] []))
  obtain ⟨w1, qw1⟩ : ∃ z : Int64, z = (p2 / (1000000 : Int64)) := ⟨_, rfl⟩
  refine OwnWp.step (U' := s₁.setTop (mkF m 7 #[.val (.long p1), .second, .val (.long p2), .second, .val (.long w1), .second, .unset, .unset, .unset, .unset, .unset, .unset] [])) (fun t k => ?_) ?_
  · show Steps p.tables e below (s₁.setTop (mkF m 0 #[.val (.long p1), .second, .val (.long p2), .second, .unset, .unset, .unset, .unset, .unset, .unset, .unset, .unset] [])) _
    refine XT.lloadN X0.here hx rfl (hb hby d4_0) rfl ?_
    show Steps p.tables e below (s₁.setTop (mkF m 1 #[.val (.long p1), .second, .val (.long p2), .second, .unset, .unset, .unset, .unset, .unset, .unset, .unset, .unset] [(.long p2)])) _
    refine X0.ldc2J hx hown (mvT hZ (hw _ (List.mem_of_getElem? (i := 20) rfl))) rfl (hb hby d4_1) ?_
    show Steps p.tables e below (s₁.setTop (mkF m 4 #[.val (.long p1), .second, .val (.long p2), .second, .unset, .unset, .unset, .unset, .unset, .unset, .unset, .unset] [(.long (1000000 : Int64)), (.long p2)])) _
    refine XT.ldiv X0.here hx rfl (hb hby d4_4) rfl (by decide) ?_
    show Steps p.tables e below (s₁.setTop (mkF m 5 #[.val (.long p1), .second, .val (.long p2), .second, .unset, .unset, .unset, .unset, .unset, .unset, .unset, .unset] [(.long (p2 / (1000000 : Int64)))])) _
    refine XT.lstore X0.here hx rfl (hb hby d4_5) rfl (l' := #[.val (.long p1), .second, .val (.long p2), .second, .val (.long (p2 / (1000000 : Int64))), .second, .unset, .unset, .unset, .unset, .unset, .unset]) rfl ?_
    show Steps p.tables e below (s₁.setTop (mkF m 7 #[.val (.long p1), .second, .val (.long p2), .second, .val (.long (p2 / (1000000 : Int64))), .second, .unset, .unset, .unset, .unset, .unset, .unset] [])) _
    rw [qw1] at k
    exact k
  obtain ⟨w2, qw2⟩ : ∃ z : Int64, z = (p2 % (1000000 : Int64)) := ⟨_, rfl⟩
  refine OwnWp.step (U' := s₁.setTop (mkF m 14 #[.val (.long p1), .second, .val (.long p2), .second, .val (.long w1), .second, .val (.long w2), .second, .unset, .unset, .unset, .unset] [])) (fun t k => ?_) ?_
  · show Steps p.tables e below (s₁.setTop (mkF m 7 #[.val (.long p1), .second, .val (.long p2), .second, .val (.long w1), .second, .unset, .unset, .unset, .unset, .unset, .unset] [])) _
    refine XT.lloadN X0.here hx rfl (hb hby d4_7) rfl ?_
    show Steps p.tables e below (s₁.setTop (mkF m 8 #[.val (.long p1), .second, .val (.long p2), .second, .val (.long w1), .second, .unset, .unset, .unset, .unset, .unset, .unset] [(.long p2)])) _
    refine X0.ldc2J hx hown (mvT hZ (hw _ (List.mem_of_getElem? (i := 20) rfl))) rfl (hb hby d4_8) ?_
    show Steps p.tables e below (s₁.setTop (mkF m 11 #[.val (.long p1), .second, .val (.long p2), .second, .val (.long w1), .second, .unset, .unset, .unset, .unset, .unset, .unset] [(.long (1000000 : Int64)), (.long p2)])) _
    refine own_lrem X0 hx rfl (hb hby d4_11) rfl (by decide) ?_
    show Steps p.tables e below (s₁.setTop (mkF m 12 #[.val (.long p1), .second, .val (.long p2), .second, .val (.long w1), .second, .unset, .unset, .unset, .unset, .unset, .unset] [(.long (p2 % (1000000 : Int64)))])) _
    refine XT.lstore X0.here hx rfl (hb hby d4_12) rfl (l' := #[.val (.long p1), .second, .val (.long p2), .second, .val (.long w1), .second, .val (.long (p2 % (1000000 : Int64))), .second, .unset, .unset, .unset, .unset]) rfl ?_
    show Steps p.tables e below (s₁.setTop (mkF m 14 #[.val (.long p1), .second, .val (.long p2), .second, .val (.long w1), .second, .val (.long (p2 % (1000000 : Int64))), .second, .unset, .unset, .unset, .unset] [])) _
    rw [qw2] at k
    exact k
  obtain ⟨w3, qw3⟩ : ∃ z : Int64, z = (((p1 % (100 : Int64)) * (10000 : Int64)) + w2) := ⟨_, rfl⟩
  refine OwnWp.step (U' := s₁.setTop (mkF m 28 #[.val (.long p1), .second, .val (.long p2), .second, .val (.long w1), .second, .val (.long w2), .second, .val (.long w3), .second, .unset, .unset] [])) (fun t k => ?_) ?_
  · show Steps p.tables e below (s₁.setTop (mkF m 14 #[.val (.long p1), .second, .val (.long p2), .second, .val (.long w1), .second, .val (.long w2), .second, .unset, .unset, .unset, .unset] [])) _
    refine XT.lloadN X0.here hx rfl (hb hby d4_14) rfl ?_
    show Steps p.tables e below (s₁.setTop (mkF m 15 #[.val (.long p1), .second, .val (.long p2), .second, .val (.long w1), .second, .val (.long w2), .second, .unset, .unset, .unset, .unset] [(.long p1)])) _
    refine X0.ldc2J hx hown (mvT hZ (hw _ (List.mem_of_getElem? (i := 21) rfl))) rfl (hb hby d4_15) ?_
    show Steps p.tables e below (s₁.setTop (mkF m 18 #[.val (.long p1), .second, .val (.long p2), .second, .val (.long w1), .second, .val (.long w2), .second, .unset, .unset, .unset, .unset] [(.long (100 : Int64)), (.long p1)])) _
    refine own_lrem X0 hx rfl (hb hby d4_18) rfl (by decide) ?_
    show Steps p.tables e below (s₁.setTop (mkF m 19 #[.val (.long p1), .second, .val (.long p2), .second, .val (.long w1), .second, .val (.long w2), .second, .unset, .unset, .unset, .unset] [(.long (p1 % (100 : Int64)))])) _
    refine X0.ldc2J hx hown (mvT hZ (hw _ (List.mem_of_getElem? (i := 22) rfl))) rfl (hb hby d4_19) ?_
    show Steps p.tables e below (s₁.setTop (mkF m 22 #[.val (.long p1), .second, .val (.long p2), .second, .val (.long w1), .second, .val (.long w2), .second, .unset, .unset, .unset, .unset] [(.long (10000 : Int64)), (.long (p1 % (100 : Int64)))])) _
    refine XT.lmul X0.here hx rfl (hb hby d4_22) rfl ?_
    show Steps p.tables e below (s₁.setTop (mkF m 23 #[.val (.long p1), .second, .val (.long p2), .second, .val (.long w1), .second, .val (.long w2), .second, .unset, .unset, .unset, .unset] [(.long ((p1 % (100 : Int64)) * (10000 : Int64)))])) _
    refine XT.lload X0.here hx rfl (hb hby d4_23) rfl ?_
    show Steps p.tables e below (s₁.setTop (mkF m 25 #[.val (.long p1), .second, .val (.long p2), .second, .val (.long w1), .second, .val (.long w2), .second, .unset, .unset, .unset, .unset] [(.long w2), (.long ((p1 % (100 : Int64)) * (10000 : Int64)))])) _
    refine XT.ladd X0.here hx rfl (hb hby d4_25) rfl ?_
    show Steps p.tables e below (s₁.setTop (mkF m 26 #[.val (.long p1), .second, .val (.long p2), .second, .val (.long w1), .second, .val (.long w2), .second, .unset, .unset, .unset, .unset] [(.long (((p1 % (100 : Int64)) * (10000 : Int64)) + w2))])) _
    refine XT.lstore X0.here hx rfl (hb hby d4_26) rfl (l' := #[.val (.long p1), .second, .val (.long p2), .second, .val (.long w1), .second, .val (.long w2), .second, .val (.long (((p1 % (100 : Int64)) * (10000 : Int64)) + w2)), .second, .unset, .unset]) rfl ?_
    show Steps p.tables e below (s₁.setTop (mkF m 28 #[.val (.long p1), .second, .val (.long p2), .second, .val (.long w1), .second, .val (.long w2), .second, .val (.long (((p1 % (100 : Int64)) * (10000 : Int64)) + w2)), .second, .unset, .unset] [])) _
    rw [qw3] at k
    exact k
  refine OwnWp.step (U' := s₁.setTop (mkF m 32 #[.val (.long p1), .second, .val (.long p2), .second, .val (.long w1), .second, .val (.long w2), .second, .val (.long w3), .second, .unset, .unset] [(.int (XT.cmpL w3 (0 : Int64)))])) (fun t k => ?_) ?_
  · show Steps p.tables e below (s₁.setTop (mkF m 28 #[.val (.long p1), .second, .val (.long p2), .second, .val (.long w1), .second, .val (.long w2), .second, .val (.long w3), .second, .unset, .unset] [])) _
    refine XT.lload X0.here hx rfl (hb hby d4_28) rfl ?_
    show Steps p.tables e below (s₁.setTop (mkF m 30 #[.val (.long p1), .second, .val (.long p2), .second, .val (.long w1), .second, .val (.long w2), .second, .val (.long w3), .second, .unset, .unset] [(.long w3)])) _
    refine XT.lconstV X0.here hx rfl (0 : Int64) (hb hby d4_30) rfl ?_
    show Steps p.tables e below (s₁.setTop (mkF m 31 #[.val (.long p1), .second, .val (.long p2), .second, .val (.long w1), .second, .val (.long w2), .second, .val (.long w3), .second, .unset, .unset] [(.long (0 : Int64)), (.long w3)])) _
    refine XT.lcmp X0.here hx rfl (hb hby d4_31) rfl ?_
    show Steps p.tables e below (s₁.setTop (mkF m 32 #[.val (.long p1), .second, .val (.long p2), .second, .val (.long w1), .second, .val (.long w2), .second, .val (.long w3), .second, .unset, .unset] [(.int (XT.cmpL w3 (0 : Int64)))])) _
    exact k
  obtain ⟨w4, qw4⟩ : ∃ z : Int64, z = (if w3 = (0 : Int64) then (0 : Int64) else (if (1000000 : Int64) < w3 then (2 : Int64) else (1 : Int64))) := ⟨_, rfl⟩
  refine OwnWp.step (U' := s₁.setTop (mkF m 61 #[.val (.long p1), .second, .val (.long p2), .second, .val (.long w1), .second, .val (.long w2), .second, .val (.long w3), .second, .val (.long w4), .second] [])) (fun t k => ?_) ?_
  · show Steps p.tables e below (s₁.setTop (mkF m 32 #[.val (.long p1), .second, .val (.long p2), .second, .val (.long w1), .second, .val (.long w2), .second, .val (.long w3), .second, .unset, .unset] [(.int (XT.cmpL w3 (0 : Int64)))])) _
    by_cases c32_7 : w3 = (0 : Int64)
    · refine XS.ifNo X0.here hx rfl (hb hby d4_32) rfl (XT.ll_ne_f c32_7) ?_
      show Steps p.tables e below (s₁.setTop (mkF m 35 #[.val (.long p1), .second, .val (.long p2), .second, .val (.long w1), .second, .val (.long w2), .second, .val (.long w3), .second, .unset, .unset] [])) _
      refine XT.lconstV X0.here hx rfl (0 : Int64) (hb hby d4_35) rfl ?_
      show Steps p.tables e below (s₁.setTop (mkF m 36 #[.val (.long p1), .second, .val (.long p2), .second, .val (.long w1), .second, .val (.long w2), .second, .val (.long w3), .second, .unset, .unset] [(.long (0 : Int64))])) _
      refine XT.lstore X0.here hx rfl (hb hby d4_36) rfl (l' := #[.val (.long p1), .second, .val (.long p2), .second, .val (.long w1), .second, .val (.long w2), .second, .val (.long w3), .second, .val (.long (0 : Int64)), .second]) rfl ?_
      show Steps p.tables e below (s₁.setTop (mkF m 38 #[.val (.long p1), .second, .val (.long p2), .second, .val (.long w1), .second, .val (.long w2), .second, .val (.long w3), .second, .val (.long (0 : Int64)), .second] [])) _
      refine XS.goto X0.here hx rfl (pc0 := 38) (pc' := 61) rfl (hb hby d4_38) (by decide) (by decide) ?_
      show Steps p.tables e below (s₁.setTop (mkF m 61 #[.val (.long p1), .second, .val (.long p2), .second, .val (.long w1), .second, .val (.long w2), .second, .val (.long w3), .second, .val (.long (0 : Int64)), .second] [])) _
      rw [show w4 = (0 : Int64) from by rw [qw4, if_pos c32_7]] at k
      exact k
    · refine XS.ifYes X0.here hx rfl (pc0 := 32) (pc' := 41) rfl (hb hby d4_32) rfl (XT.ll_ne_t c32_7) (by decide) (by decide) ?_
      show Steps p.tables e below (s₁.setTop (mkF m 41 #[.val (.long p1), .second, .val (.long p2), .second, .val (.long w1), .second, .val (.long w2), .second, .val (.long w3), .second, .unset, .unset] [])) _
      refine XT.lload X0.here hx rfl (hb hby d4_41) rfl ?_
      show Steps p.tables e below (s₁.setTop (mkF m 43 #[.val (.long p1), .second, .val (.long p2), .second, .val (.long w1), .second, .val (.long w2), .second, .val (.long w3), .second, .unset, .unset] [(.long w3)])) _
      refine X0.ldc2J hx hown (mvT hZ (hw _ (List.mem_of_getElem? (i := 20) rfl))) rfl (hb hby d4_43) ?_
      show Steps p.tables e below (s₁.setTop (mkF m 46 #[.val (.long p1), .second, .val (.long p2), .second, .val (.long w1), .second, .val (.long w2), .second, .val (.long w3), .second, .unset, .unset] [(.long (1000000 : Int64)), (.long w3)])) _
      refine XT.lcmp X0.here hx rfl (hb hby d4_46) rfl ?_
      show Steps p.tables e below (s₁.setTop (mkF m 47 #[.val (.long p1), .second, .val (.long p2), .second, .val (.long w1), .second, .val (.long w2), .second, .val (.long w3), .second, .unset, .unset] [(.int (XT.cmpL w3 (1000000 : Int64)))])) _
      by_cases c47_8 : (1000000 : Int64) < w3
      · refine XS.ifYes X0.here hx rfl (pc0 := 47) (pc' := 56) rfl (hb hby d4_47) rfl (XT.ll_gt_t c47_8) (by decide) (by decide) ?_
        show Steps p.tables e below (s₁.setTop (mkF m 56 #[.val (.long p1), .second, .val (.long p2), .second, .val (.long w1), .second, .val (.long w2), .second, .val (.long w3), .second, .unset, .unset] [])) _
        refine X0.ldc2J hx hown (mvT hZ (hw _ (List.mem_of_getElem? (i := 23) rfl))) rfl (hb hby d4_56) ?_
        show Steps p.tables e below (s₁.setTop (mkF m 59 #[.val (.long p1), .second, .val (.long p2), .second, .val (.long w1), .second, .val (.long w2), .second, .val (.long w3), .second, .unset, .unset] [(.long (2 : Int64))])) _
        refine XT.lstore X0.here hx rfl (hb hby d4_59) rfl (l' := #[.val (.long p1), .second, .val (.long p2), .second, .val (.long w1), .second, .val (.long w2), .second, .val (.long w3), .second, .val (.long (2 : Int64)), .second]) rfl ?_
        show Steps p.tables e below (s₁.setTop (mkF m 61 #[.val (.long p1), .second, .val (.long p2), .second, .val (.long w1), .second, .val (.long w2), .second, .val (.long w3), .second, .val (.long (2 : Int64)), .second] [])) _
        rw [show w4 = (2 : Int64) from by rw [qw4, if_neg c32_7, if_pos c47_8]] at k
        exact k
      · refine XS.ifNo X0.here hx rfl (hb hby d4_47) rfl (XT.ll_gt_f c47_8) ?_
        show Steps p.tables e below (s₁.setTop (mkF m 50 #[.val (.long p1), .second, .val (.long p2), .second, .val (.long w1), .second, .val (.long w2), .second, .val (.long w3), .second, .unset, .unset] [])) _
        refine XT.lconstV X0.here hx rfl (1 : Int64) (hb hby d4_50) rfl ?_
        show Steps p.tables e below (s₁.setTop (mkF m 51 #[.val (.long p1), .second, .val (.long p2), .second, .val (.long w1), .second, .val (.long w2), .second, .val (.long w3), .second, .unset, .unset] [(.long (1 : Int64))])) _
        refine XT.lstore X0.here hx rfl (hb hby d4_51) rfl (l' := #[.val (.long p1), .second, .val (.long p2), .second, .val (.long w1), .second, .val (.long w2), .second, .val (.long w3), .second, .val (.long (1 : Int64)), .second]) rfl ?_
        show Steps p.tables e below (s₁.setTop (mkF m 53 #[.val (.long p1), .second, .val (.long p2), .second, .val (.long w1), .second, .val (.long w2), .second, .val (.long w3), .second, .val (.long (1 : Int64)), .second] [])) _
        refine XS.goto X0.here hx rfl (pc0 := 53) (pc' := 61) rfl (hb hby d4_53) (by decide) (by decide) ?_
        show Steps p.tables e below (s₁.setTop (mkF m 61 #[.val (.long p1), .second, .val (.long p2), .second, .val (.long w1), .second, .val (.long w2), .second, .val (.long w3), .second, .val (.long (1 : Int64)), .second] [])) _
        rw [show w4 = (1 : Int64) from by rw [qw4, if_neg c32_7, if_neg c47_8]] at k
        exact k
  refine OwnWp.step (U' := s₁.setTop (mkF m 74 #[.val (.long p1), .second, .val (.long p2), .second, .val (.long w1), .second, .val (.long w2), .second, .val (.long w3), .second, .val (.long w4), .second] [(.long (((p1 - (p1 / (100 : Int64))) - w1) - w4))])) (fun t k => ?_) ?_
  · show Steps p.tables e below (s₁.setTop (mkF m 61 #[.val (.long p1), .second, .val (.long p2), .second, .val (.long w1), .second, .val (.long w2), .second, .val (.long w3), .second, .val (.long w4), .second] [])) _
    refine XT.lloadN X0.here hx rfl (hb hby d4_61) rfl ?_
    show Steps p.tables e below (s₁.setTop (mkF m 62 #[.val (.long p1), .second, .val (.long p2), .second, .val (.long w1), .second, .val (.long w2), .second, .val (.long w3), .second, .val (.long w4), .second] [(.long p1)])) _
    refine XT.lloadN X0.here hx rfl (hb hby d4_62) rfl ?_
    show Steps p.tables e below (s₁.setTop (mkF m 63 #[.val (.long p1), .second, .val (.long p2), .second, .val (.long w1), .second, .val (.long w2), .second, .val (.long w3), .second, .val (.long w4), .second] [(.long p1), (.long p1)])) _
    refine X0.ldc2J hx hown (mvT hZ (hw _ (List.mem_of_getElem? (i := 21) rfl))) rfl (hb hby d4_63) ?_
    show Steps p.tables e below (s₁.setTop (mkF m 66 #[.val (.long p1), .second, .val (.long p2), .second, .val (.long w1), .second, .val (.long w2), .second, .val (.long w3), .second, .val (.long w4), .second] [(.long (100 : Int64)), (.long p1), (.long p1)])) _
    refine XT.ldiv X0.here hx rfl (hb hby d4_66) rfl (by decide) ?_
    show Steps p.tables e below (s₁.setTop (mkF m 67 #[.val (.long p1), .second, .val (.long p2), .second, .val (.long w1), .second, .val (.long w2), .second, .val (.long w3), .second, .val (.long w4), .second] [(.long (p1 / (100 : Int64))), (.long p1)])) _
    refine XT.lsub X0.here hx rfl (hb hby d4_67) rfl ?_
    show Steps p.tables e below (s₁.setTop (mkF m 68 #[.val (.long p1), .second, .val (.long p2), .second, .val (.long w1), .second, .val (.long w2), .second, .val (.long w3), .second, .val (.long w4), .second] [(.long (p1 - (p1 / (100 : Int64))))])) _
    refine XT.lload X0.here hx rfl (hb hby d4_68) rfl ?_
    show Steps p.tables e below (s₁.setTop (mkF m 70 #[.val (.long p1), .second, .val (.long p2), .second, .val (.long w1), .second, .val (.long w2), .second, .val (.long w3), .second, .val (.long w4), .second] [(.long w1), (.long (p1 - (p1 / (100 : Int64))))])) _
    refine XT.lsub X0.here hx rfl (hb hby d4_70) rfl ?_
    show Steps p.tables e below (s₁.setTop (mkF m 71 #[.val (.long p1), .second, .val (.long p2), .second, .val (.long w1), .second, .val (.long w2), .second, .val (.long w3), .second, .val (.long w4), .second] [(.long ((p1 - (p1 / (100 : Int64))) - w1))])) _
    refine XT.lload X0.here hx rfl (hb hby d4_71) rfl ?_
    show Steps p.tables e below (s₁.setTop (mkF m 73 #[.val (.long p1), .second, .val (.long p2), .second, .val (.long w1), .second, .val (.long w2), .second, .val (.long w3), .second, .val (.long w4), .second] [(.long w4), (.long ((p1 - (p1 / (100 : Int64))) - w1))])) _
    refine XT.lsub X0.here hx rfl (hb hby d4_73) rfl ?_
    show Steps p.tables e below (s₁.setTop (mkF m 74 #[.val (.long p1), .second, .val (.long p2), .second, .val (.long w1), .second, .val (.long w2), .second, .val (.long w3), .second, .val (.long w4), .second] [(.long (((p1 - (p1 / (100 : Int64))) - w1) - w4))])) _
    exact k
  refine OwnWp.retJ X0 hx hlk Bd.returns (hb hby d4_74) (by decide) (by decide) ?_
  refine ⟨?_, N0, e0⟩
  show some (Value.long (((p1 - (p1 / (100 : Int64))) - w1) - w4)) = some (.long (own_f4 p1 p2))
  subst qw4
  subst qw3
  subst qw2
  subst qw1
  unfold own_f4 own_f4_w4 own_f4_w3 own_f4_w2 own_f4_w1
  rfl
theorem own_pre (p1 p2 w1 w2 : Int64) (q1 : w1 = (((p1 &&& (9223372036854775807 : Int64)) % (9223372036854 : Int64)) + (1 : Int64))) (q2 : w2 = (p2 &&& (9223372036854775807 : Int64))) :
    ¬ w1 < (1 : Int64) ∧ ¬ (9223372036854 : Int64) < w1 ∧ ¬ w2 < (0 : Int64) := by
  have a1 := c_maskL p1 9223372036854775807 63 (by decide) (by decide)
  have a2 := (c_lrem (p1 &&& 9223372036854775807) 9223372036854 9223372036854 rfl).1 (by omega)
  rw [lrem_mod] at a2
  have a3 := c_ladd ((p1 &&& (9223372036854775807 : Int64)) % (9223372036854 : Int64)) 1
  rw [← q1, show (1 : Int64).toInt = 1 from rfl] at a3
  have a4 := rng64 w1
  have a5 := c_maskL p2 9223372036854775807 63 (by decide) (by decide)
  rw [← q2] at a5
  simp only [Int64.lt_iff_toInt_lt, show (1 : Int64).toInt = 1 from rfl, show (9223372036854 : Int64).toInt = 9223372036854 from rfl, show (0 : Int64).toInt = 0 from rfl]
  omega
theorem own_floor (x : Int64) : (own_f3 x (1000000 : Int64)).toInt = x.toInt / 1000000 := by
  have r := rng64 x
  have d1 := c_ldiv x 1000000 1000000 rfl (by decide)
  have s1 := c_xorSL x 1000000
  rw [show (1000000 : Int64).toInt = 1000000 from rfl] at s1
  have m1 := c_lmul (x / 1000000) 1000000
  rw [show (1000000 : Int64).toInt = 1000000 from rfl] at m1
  have u1 := c_lsub (x / 1000000) 1
  rw [show (1 : Int64).toInt = 1 from rfl] at u1
  have r2 := rng64 (x / 1000000)
  have r3 := rng64 (x / 1000000 * 1000000)
  have r4 := rng64 (x / 1000000 - 1)
  have l1 : (x ^^^ (1000000 : Int64)) < (0 : Int64) ↔ (x ^^^ (1000000 : Int64)).toInt < 0 := Int64.lt_iff_toInt_lt
  unfold own_f3 own_f3_w1
  by_cases q : x.toInt < 0
  · rw [if_pos (l1.mpr (s1.2.1 q (by omega)))]
    have d2 := d1.2 q
    have m2 : (x / 1000000 * 1000000).toInt = (x / 1000000).toInt * 1000000 := by omega
    have u2 : (x / 1000000 - 1).toInt = (x / 1000000).toInt - 1 := by omega
    by_cases q2 : x / 1000000 * 1000000 = x
    · rw [if_pos q2]; rw [q2] at m2; clear m1 u1; omega
    · have q3 : (x / 1000000 * 1000000).toInt ≠ x.toInt := fun h => q2 (Int64.toInt_inj.mp h)
      clear m1 u1; rw [if_neg q2]; omega
  · have d2 := d1.1 (by omega)
    have := s1.2.2.2 (by omega) (by omega)
    rw [if_neg (by rw [l1]; omega)]; exact d2

theorem pn_0 : plainFor (⟨"com/example/aldaba/aldaba/QuorumValidityMillisPinLaw", "law", "(JJ)Z"⟩ : MethodName) = true := plainFor_of_name (by first | (simp [plainName, overriddenIn]; done) | decide +kernel)
theorem pd_0 : parseMethodDescriptor "(JJ)Z" = some ⟨[.long, .long], some .boolean⟩ := by decide +kernel
theorem ef_0 (m : MethodId) (x0 : Int64) (x1 : Int64) : entryFrame m #[(.long x0), (.long x1)] maxLocals = mkF m 0 #[.val (.long x0), .second, .val (.long x1), .second, .unset, .unset, .unset, .unset, .unset, .unset] [] := by first | (simp [entryFrame, mkF, argsToLocals, Value.category, maxLocals]; done) | rfl
theorem own_law (p1 : Int64) (p2 : Int64) (w1 : Int64) (qw1 : w1 = (((p1 &&& (9223372036854775807 : Int64)) % (9223372036854 : Int64)) + (1 : Int64))) (w2 : Int64) (qw2 : w2 = (p2 &&& (9223372036854775807 : Int64))) (w3 : Int64) (qw3 : w3 = (own_f1 w1 w2)) (w4 : Int32) (qw4 : w4 = (if w3 = (own_f4 w1 w2) then (1 : Int32) else (0 : Int32))) : w4 = 1 := by
  obtain ⟨hA, hB, hC⟩ := own_pre p1 p2 w1 w2 qw1 qw2
  simp only [Int64.lt_iff_toInt_lt, show (1 : Int64).toInt = 1 from rfl, show (9223372036854 : Int64).toInt = 9223372036854 from rfl, show (0 : Int64).toInt = 0 from rfl] at hA hB hC
  have r1 := rng64 w1
  have r2 := rng64 w2
  have a1 := c_lmul w1 1000000
  rw [show (1000000 : Int64).toInt = 1000000 from rfl] at a1
  have a2 := c_lmul w1 10000
  rw [show (10000 : Int64).toInt = 10000 from rfl] at a2
  have a3 := c_lsub (w1 * 1000000) (w1 * 10000)
  have a4 := c_lsub (w1 * 1000000 - w1 * 10000) w2
  have s1 := rng64 (w1 * 1000000)
  have s2 := rng64 (w1 * 10000)
  have s3 := rng64 (w1 * 1000000 - w1 * 10000)
  have s4 := rng64 (w1 * 1000000 - w1 * 10000 - w2)
  have f1 := own_floor (w1 * 1000000 - w1 * 10000 - w2)
  have hv : (own_f1 w1 w2).toInt = (w1.toInt * 990000 - w2.toInt) / 1000000 := by
    unfold own_f1 own_f1_w3 own_f1_w1 own_f1_w2
    rw [f1]; omega
  have b1 := (c_ldiv w2 1000000 1000000 rfl (by decide)).1 (by omega)
  have b2 := (c_lrem w2 1000000 1000000 rfl).1 (by omega)
  have b3 := (c_lrem w1 100 100 rfl).1 (by omega)
  rw [lrem_mod] at b2 b3
  have b4 := (c_ldiv w1 100 100 rfl (by decide)).1 (by omega)
  have b5 := c_lmul (w1 % 100) 10000
  rw [show (10000 : Int64).toInt = 10000 from rfl] at b5
  have t1 := rng64 (w1 % 100 * 10000)
  have b6 := c_ladd (w1 % 100 * 10000) (w2 % 1000000)
  have t2 := rng64 (w1 % 100 * 10000 + w2 % 1000000)
  have hs : (own_f4_w3 w1 w2).toInt = (w1.toInt % 100) * 10000 + w2.toInt % 1000000 := by
    unfold own_f4_w3 own_f4_w2; omega
  have hc : (own_f4_w4 w1 w2).toInt = if (own_f4_w3 w1 w2).toInt = 0 then 0 else if 1000000 < (own_f4_w3 w1 w2).toInt then 2 else 1 := by
    unfold own_f4_w4
    have l1 : own_f4_w3 w1 w2 = 0 ↔ (own_f4_w3 w1 w2).toInt = 0 := by rw [← Int64.toInt_inj]; rfl
    have l2 : (1000000 : Int64) < own_f4_w3 w1 w2 ↔ 1000000 < (own_f4_w3 w1 w2).toInt := Int64.lt_iff_toInt_lt
    simp only [l1, l2]
    split
    · rfl
    · split <;> rfl
  have hr : (own_f4 w1 w2).toInt = w1.toInt - w1.toInt / 100 - w2.toInt / 1000000 - (own_f4_w4 w1 w2).toInt := by
    have c1 := c_lsub w1 (w1 / 100)
    have c2 := c_lsub (w1 - w1 / 100) (w2 / 1000000)
    have c3 := c_lsub (w1 - w1 / 100 - w2 / 1000000) (own_f4_w4 w1 w2)
    have v1 := rng64 (w1 - w1 / 100)
    have v2 := rng64 (w1 - w1 / 100 - w2 / 1000000)
    have v3 := rng64 (w1 - w1 / 100 - w2 / 1000000 - own_f4_w4 w1 w2)
    unfold own_f4 own_f4_w1
    split at hc <;> (try split at hc) <;> omega
  have hf : w3 = own_f4 w1 w2 := by
    rw [qw3]; apply Int64.toInt_inj.mp
    rw [hv, hr, hc, hs]
    split
    · omega
    · split <;> omega
  rw [qw4, if_pos hf]

def Q0 (Z : State) (p1 : Int64) (p2 : Int64)  (h0 : Heap) (n0 : Nat) (v : Option Value) (h : Heap) (L : List Loc) : Prop := v = some (.int 1) ∧ Fr n0 L
set_option maxRecDepth 65536 in
set_option maxHeartbeats 40000000 in
theorem rm0 (l : Launch) (Z : State) (a0 : Array Value) (hw : ∀ d ∈ tables_1, d.before a0 Z = true) (ws : List Jvm.Cond) (p1 : Int64) (p2 : Int64)  (h0 : Heap) (n0 : Nat) (Z0 : n0 ≤ h0.size)  :
    MetFree l x (head1 (Jvm.Cond.code x code maxLocals ret :: ws) room_1) (fun a U => a = #[(.long p1), (.long p2)] ∧ Z.Warmed39 U.vm ∧ U.heap = h0) (fun _ _ _ _ _ => True) (fun _ U o U' => ∃ v L, o = .returned v ∧ Q0 Z p1 p2  h0 n0 v U'.heap L ∧ FrameEnd U o U' L room_1.cells room_1.slots) := by
  refine MetFree.of_bodySF pn_0 hisR ?_
  intro p e s m args below meth c s₁ Bd hml0 hP hK
  obtain ⟨rfl, hZ, hh⟩ := hP
  have hx := Bd.exec
  have hby := Bd.bytes
  have hlk := BodyLoose.notSynchronized Bd
  have hml : c.maxLocals = 10 := hml0
  have hown : s.vm.findClass "com/example/aldaba/aldaba/QuorumValidityMillisPinLaw" = some m.cls := findClass_of_methodNamed Bd.named
  have hnm := (name_of_methodNamed Bd.named Bd.method).1
  have X0 : Stand p l e room_1 s m #[(.long p1), (.long p2)] below meth c s₁ [] 0 0 := Stand.of_body Bd
  have e0 : s₁.heap = h0 := by rw [← hh, Bd.state]; rfl
  have N0 := Fr.nil n0
  show OwnWp p e below s room_1.cells room_1.slots (Q0 Z p1 p2  h0 n0) (s₁.setTop (entryFrame m #[(.long p1), (.long p2)] maxLocals))
  refine OwnWp.cast (ef_0 m p1 p2) ?_
  show OwnWp p e below s _ _ _ (s₁.setTop (mkF m 0 #[.val (.long p1), .second, .val (.long p2), .second, .unset, .unset, .unset, .unset, .unset, .unset] []))
  obtain ⟨w1, qw1⟩ : ∃ z : Int64, z = (((p1 &&& (9223372036854775807 : Int64)) % (9223372036854 : Int64)) + (1 : Int64)) := ⟨_, rfl⟩
  refine OwnWp.step (U' := s₁.setTop (mkF m 13 #[.val (.long p1), .second, .val (.long p2), .second, .val (.long w1), .second, .unset, .unset, .unset, .unset] [])) (fun t k => ?_) ?_
  · show Steps p.tables e below (s₁.setTop (mkF m 0 #[.val (.long p1), .second, .val (.long p2), .second, .unset, .unset, .unset, .unset, .unset, .unset] [])) _
    refine XT.lloadN X0.here hx rfl (hb hby at_0) rfl ?_
    show Steps p.tables e below (s₁.setTop (mkF m 1 #[.val (.long p1), .second, .val (.long p2), .second, .unset, .unset, .unset, .unset, .unset, .unset] [(.long p1)])) _
    refine X0.ldc2J hx hown (mvT hZ (hw _ (List.mem_of_getElem? (i := 0) rfl))) rfl (hb hby at_1) ?_
    show Steps p.tables e below (s₁.setTop (mkF m 4 #[.val (.long p1), .second, .val (.long p2), .second, .unset, .unset, .unset, .unset, .unset, .unset] [(.long (9223372036854775807 : Int64)), (.long p1)])) _
    refine XT.land X0.here hx rfl (hb hby at_4) rfl ?_
    show Steps p.tables e below (s₁.setTop (mkF m 5 #[.val (.long p1), .second, .val (.long p2), .second, .unset, .unset, .unset, .unset, .unset, .unset] [(.long (p1 &&& (9223372036854775807 : Int64)))])) _
    refine X0.ldc2J hx hown (mvT hZ (hw _ (List.mem_of_getElem? (i := 1) rfl))) rfl (hb hby at_5) ?_
    show Steps p.tables e below (s₁.setTop (mkF m 8 #[.val (.long p1), .second, .val (.long p2), .second, .unset, .unset, .unset, .unset, .unset, .unset] [(.long (9223372036854 : Int64)), (.long (p1 &&& (9223372036854775807 : Int64)))])) _
    refine own_lrem X0 hx rfl (hb hby at_8) rfl (by decide) ?_
    show Steps p.tables e below (s₁.setTop (mkF m 9 #[.val (.long p1), .second, .val (.long p2), .second, .unset, .unset, .unset, .unset, .unset, .unset] [(.long ((p1 &&& (9223372036854775807 : Int64)) % (9223372036854 : Int64)))])) _
    refine XT.lconstV X0.here hx rfl (1 : Int64) (hb hby at_9) rfl ?_
    show Steps p.tables e below (s₁.setTop (mkF m 10 #[.val (.long p1), .second, .val (.long p2), .second, .unset, .unset, .unset, .unset, .unset, .unset] [(.long (1 : Int64)), (.long ((p1 &&& (9223372036854775807 : Int64)) % (9223372036854 : Int64)))])) _
    refine XT.ladd X0.here hx rfl (hb hby at_10) rfl ?_
    show Steps p.tables e below (s₁.setTop (mkF m 11 #[.val (.long p1), .second, .val (.long p2), .second, .unset, .unset, .unset, .unset, .unset, .unset] [(.long (((p1 &&& (9223372036854775807 : Int64)) % (9223372036854 : Int64)) + (1 : Int64)))])) _
    refine XT.lstore X0.here hx rfl (hb hby at_11) rfl (l' := #[.val (.long p1), .second, .val (.long p2), .second, .val (.long (((p1 &&& (9223372036854775807 : Int64)) % (9223372036854 : Int64)) + (1 : Int64))), .second, .unset, .unset, .unset, .unset]) rfl ?_
    show Steps p.tables e below (s₁.setTop (mkF m 13 #[.val (.long p1), .second, .val (.long p2), .second, .val (.long (((p1 &&& (9223372036854775807 : Int64)) % (9223372036854 : Int64)) + (1 : Int64))), .second, .unset, .unset, .unset, .unset] [])) _
    rw [qw1] at k
    exact k
  obtain ⟨w2, qw2⟩ : ∃ z : Int64, z = (p2 &&& (9223372036854775807 : Int64)) := ⟨_, rfl⟩
  refine OwnWp.step (U' := s₁.setTop (mkF m 20 #[.val (.long p1), .second, .val (.long p2), .second, .val (.long w1), .second, .val (.long w2), .second, .unset, .unset] [])) (fun t k => ?_) ?_
  · show Steps p.tables e below (s₁.setTop (mkF m 13 #[.val (.long p1), .second, .val (.long p2), .second, .val (.long w1), .second, .unset, .unset, .unset, .unset] [])) _
    refine XT.lloadN X0.here hx rfl (hb hby at_13) rfl ?_
    show Steps p.tables e below (s₁.setTop (mkF m 14 #[.val (.long p1), .second, .val (.long p2), .second, .val (.long w1), .second, .unset, .unset, .unset, .unset] [(.long p2)])) _
    refine X0.ldc2J hx hown (mvT hZ (hw _ (List.mem_of_getElem? (i := 0) rfl))) rfl (hb hby at_14) ?_
    show Steps p.tables e below (s₁.setTop (mkF m 17 #[.val (.long p1), .second, .val (.long p2), .second, .val (.long w1), .second, .unset, .unset, .unset, .unset] [(.long (9223372036854775807 : Int64)), (.long p2)])) _
    refine XT.land X0.here hx rfl (hb hby at_17) rfl ?_
    show Steps p.tables e below (s₁.setTop (mkF m 18 #[.val (.long p1), .second, .val (.long p2), .second, .val (.long w1), .second, .unset, .unset, .unset, .unset] [(.long (p2 &&& (9223372036854775807 : Int64)))])) _
    refine XT.lstore X0.here hx rfl (hb hby at_18) rfl (l' := #[.val (.long p1), .second, .val (.long p2), .second, .val (.long w1), .second, .val (.long (p2 &&& (9223372036854775807 : Int64))), .second, .unset, .unset]) rfl ?_
    show Steps p.tables e below (s₁.setTop (mkF m 20 #[.val (.long p1), .second, .val (.long p2), .second, .val (.long w1), .second, .val (.long (p2 &&& (9223372036854775807 : Int64))), .second, .unset, .unset] [])) _
    rw [qw2] at k
    exact k
  refine OwnWp.step (U' := s₁.setTop (mkF m 24 #[.val (.long p1), .second, .val (.long p2), .second, .val (.long w1), .second, .val (.long w2), .second, .unset, .unset] [(.long w2), (.long w1)])) (fun t k => ?_) ?_
  · show Steps p.tables e below (s₁.setTop (mkF m 20 #[.val (.long p1), .second, .val (.long p2), .second, .val (.long w1), .second, .val (.long w2), .second, .unset, .unset] [])) _
    refine XT.lload X0.here hx rfl (hb hby at_20) rfl ?_
    show Steps p.tables e below (s₁.setTop (mkF m 22 #[.val (.long p1), .second, .val (.long p2), .second, .val (.long w1), .second, .val (.long w2), .second, .unset, .unset] [(.long w1)])) _
    refine XT.lload X0.here hx rfl (hb hby at_22) rfl ?_
    show Steps p.tables e below (s₁.setTop (mkF m 24 #[.val (.long p1), .second, .val (.long p2), .second, .val (.long w1), .second, .val (.long w2), .second, .unset, .unset] [(.long w2), (.long w1)])) _
    exact k
  show OwnWp p e below s _ _ _ (s₁.setTop (mkF m 24 #[.val (.long p1), .second, .val (.long p2), .second, .val (.long w1), .second, .val (.long w2), .second, .unset, .unset] [(.long w2), (.long w1)]))
  obtain ⟨hA, hB, hC⟩ := own_pre p1 p2 w1 w2 qw1 qw2
  obtain ⟨_, _, ⟨T9, L9, k9, n9⟩, -, X9, ⟨Lc9, hQ9, l9, y9, z9⟩, st9⟩ := Jvm.LawKit.callS X0 hx (y := (⟨"com/example/aldaba/aldaba/Quorum", "validityMillis", "(JJ)J"⟩ : MethodName)) hown (mvT hZ (hw _ (List.mem_of_getElem? (i := 2) rfl))) (mvT hZ (hw _ (List.mem_of_getElem? (i := 3) rfl))) (mvT hZ (hw _ (List.mem_of_getElem? (i := 4) rfl))) (mvT hZ (hw _ (List.mem_of_getElem? (i := 5) rfl))) (by decide) (backOf (W := 0) (rm1 l Z a0 hw [] w1 w2 h0 n0 Z0 hA hB hC) hZ (hw _ (List.mem_of_getElem? (i := 5) rfl)) (hw _ (List.mem_of_getElem? (i := 4) rfl)) (by decide) (by decide)) (g := (mkF m 24 #[.val (.long p1), .second, .val (.long p2), .second, .val (.long w1), .second, .val (.long w2), .second, .unset, .unset] [(.long w2), (.long w1)])) rfl (by rw [hml]; rfl) (argsL := [(.long w1), (.long w2)]) (rest := []) (lenOf pd_1 rfl) rfl (by show 2 * 0 + _ ≤ _; exact Nat.le_of_eq rfl) (hb hby at_24) (fun _ _ => ⟨rfl, e0, (by dsimp only [Pt.cells]; decide), (by dsimp only [Pt.slots]; decide)⟩)
  dsimp only [Pt.U, Pt.locs, Pt.cells, Pt.slots] at X9 l9 y9 z9 st9 hQ9
  subst l9 y9 z9
  obtain ⟨rfl, Nc9, hp9⟩ := hQ9
  have N9 := Fr.app N0 Nc9
  refine OwnWp.step st9 ?_
  have eh9 : T9.heap = h0 := hp9
  show OwnWp p e below s _ _ _ (T9.setTop (mkF m 27 #[.val (.long p1), .second, .val (.long p2), .second, .val (.long w1), .second, .val (.long w2), .second, .unset, .unset] [(.long (own_f1 w1 w2))]))
  obtain ⟨w3, qw3⟩ : ∃ z : Int64, z = (own_f1 w1 w2) := ⟨_, rfl⟩
  refine OwnWp.step (U' := T9.setTop (mkF m 29 #[.val (.long p1), .second, .val (.long p2), .second, .val (.long w1), .second, .val (.long w2), .second, .val (.long w3), .second] [])) (fun t k => ?_) ?_
  · show Steps p.tables e below (T9.setTop (mkF m 27 #[.val (.long p1), .second, .val (.long p2), .second, .val (.long w1), .second, .val (.long w2), .second, .unset, .unset] [(.long (own_f1 w1 w2))])) _
    refine XT.lstore X9.here hx rfl (hb hby at_27) rfl (l' := #[.val (.long p1), .second, .val (.long p2), .second, .val (.long w1), .second, .val (.long w2), .second, .val (.long (own_f1 w1 w2)), .second]) rfl ?_
    show Steps p.tables e below (T9.setTop (mkF m 29 #[.val (.long p1), .second, .val (.long p2), .second, .val (.long w1), .second, .val (.long w2), .second, .val (.long (own_f1 w1 w2)), .second] [])) _
    rw [qw3] at k
    exact k
  refine OwnWp.step (U' := T9.setTop (mkF m 35 #[.val (.long p1), .second, .val (.long p2), .second, .val (.long w1), .second, .val (.long w2), .second, .val (.long w3), .second] [(.long w2), (.long w1), (.long w3)])) (fun t k => ?_) ?_
  · show Steps p.tables e below (T9.setTop (mkF m 29 #[.val (.long p1), .second, .val (.long p2), .second, .val (.long w1), .second, .val (.long w2), .second, .val (.long w3), .second] [])) _
    refine XT.lload X9.here hx rfl (hb hby at_29) rfl ?_
    show Steps p.tables e below (T9.setTop (mkF m 31 #[.val (.long p1), .second, .val (.long p2), .second, .val (.long w1), .second, .val (.long w2), .second, .val (.long w3), .second] [(.long w3)])) _
    refine XT.lload X9.here hx rfl (hb hby at_31) rfl ?_
    show Steps p.tables e below (T9.setTop (mkF m 33 #[.val (.long p1), .second, .val (.long p2), .second, .val (.long w1), .second, .val (.long w2), .second, .val (.long w3), .second] [(.long w1), (.long w3)])) _
    refine XT.lload X9.here hx rfl (hb hby at_33) rfl ?_
    show Steps p.tables e below (T9.setTop (mkF m 35 #[.val (.long p1), .second, .val (.long p2), .second, .val (.long w1), .second, .val (.long w2), .second, .val (.long w3), .second] [(.long w2), (.long w1), (.long w3)])) _
    exact k
  show OwnWp p e below s _ _ _ (T9.setTop (mkF m 35 #[.val (.long p1), .second, .val (.long p2), .second, .val (.long w1), .second, .val (.long w2), .second, .val (.long w3), .second] [(.long w2), (.long w1), (.long w3)]))
  obtain ⟨_, _, ⟨T10, L10, k10, n10⟩, -, X10, ⟨Lc10, hQ10, l10, y10, z10⟩, st10⟩ := Jvm.LawKit.callS X9 hx (y := (⟨"com/example/aldaba/aldaba/QuorumValidityMillisPinLaw", "reference", "(JJ)J"⟩ : MethodName)) hown (mvT hZ (hw _ (List.mem_of_getElem? (i := 16) rfl))) (mvT hZ (hw _ (List.mem_of_getElem? (i := 17) rfl))) (mvT hZ (hw _ (List.mem_of_getElem? (i := 18) rfl))) (mvT hZ (hw _ (List.mem_of_getElem? (i := 19) rfl))) (by decide) (backOf (W := 2) (rm4 l Z a0 hw [] w1 w2 h0 n0 Z0 ) hZ (hw _ (List.mem_of_getElem? (i := 19) rfl)) (hw _ (List.mem_of_getElem? (i := 18) rfl)) (by decide) (by decide)) (g := (mkF m 35 #[.val (.long p1), .second, .val (.long p2), .second, .val (.long w1), .second, .val (.long w2), .second, .val (.long w3), .second] [(.long w2), (.long w1), (.long w3)])) rfl (by rw [hml]; rfl) (argsL := [(.long w1), (.long w2)]) (rest := [(.long w3)]) (lenOf pd_4 rfl) rfl (by show 2 * 0 + _ ≤ _; exact Nat.le_of_eq rfl) (hb hby at_35) (fun _ _ => ⟨rfl, eh9, (by dsimp only [Pt.cells]; decide), (by dsimp only [Pt.slots]; decide)⟩)
  dsimp only [Pt.U, Pt.locs, Pt.cells, Pt.slots] at X10 l10 y10 z10 st10 hQ10
  subst l10 y10 z10
  obtain ⟨rfl, Nc10, hp10⟩ := hQ10
  have N10 := Fr.app N9 Nc10
  refine OwnWp.step st10 ?_
  have eh10 : T10.heap = h0 := hp10
  show OwnWp p e below s _ _ _ (T10.setTop (mkF m 38 #[.val (.long p1), .second, .val (.long p2), .second, .val (.long w1), .second, .val (.long w2), .second, .val (.long w3), .second] [(.long (own_f4 w1 w2)), (.long w3)]))
  refine OwnWp.step (U' := T10.setTop (mkF m 39 #[.val (.long p1), .second, .val (.long p2), .second, .val (.long w1), .second, .val (.long w2), .second, .val (.long w3), .second] [(.int (XT.cmpL w3 (own_f4 w1 w2)))])) (fun t k => ?_) ?_
  · show Steps p.tables e below (T10.setTop (mkF m 38 #[.val (.long p1), .second, .val (.long p2), .second, .val (.long w1), .second, .val (.long w2), .second, .val (.long w3), .second] [(.long (own_f4 w1 w2)), (.long w3)])) _
    refine XT.lcmp X10.here hx rfl (hb hby at_38) rfl ?_
    show Steps p.tables e below (T10.setTop (mkF m 39 #[.val (.long p1), .second, .val (.long p2), .second, .val (.long w1), .second, .val (.long w2), .second, .val (.long w3), .second] [(.int (XT.cmpL w3 (own_f4 w1 w2)))])) _
    exact k
  obtain ⟨w4, qw4⟩ : ∃ z : Int32, z = (if w3 = (own_f4 w1 w2) then (1 : Int32) else (0 : Int32)) := ⟨_, rfl⟩
  refine OwnWp.step (U' := T10.setTop (mkF m 47 #[.val (.long p1), .second, .val (.long p2), .second, .val (.long w1), .second, .val (.long w2), .second, .val (.long w3), .second] [(.int w4)])) (fun t k => ?_) ?_
  · show Steps p.tables e below (T10.setTop (mkF m 39 #[.val (.long p1), .second, .val (.long p2), .second, .val (.long w1), .second, .val (.long w2), .second, .val (.long w3), .second] [(.int (XT.cmpL w3 (own_f4 w1 w2)))])) _
    by_cases c39_11 : w3 = (own_f4 w1 w2)
    · refine XS.ifNo X10.here hx rfl (hb hby at_39) rfl (XT.ll_ne_f c39_11) ?_
      show Steps p.tables e below (T10.setTop (mkF m 42 #[.val (.long p1), .second, .val (.long p2), .second, .val (.long w1), .second, .val (.long w2), .second, .val (.long w3), .second] [])) _
      refine XT.iconstV X10.here hx rfl (1 : Int32) (hb hby at_42) rfl ?_
      show Steps p.tables e below (T10.setTop (mkF m 43 #[.val (.long p1), .second, .val (.long p2), .second, .val (.long w1), .second, .val (.long w2), .second, .val (.long w3), .second] [(.int (1 : Int32))])) _
      refine XS.goto X10.here hx rfl (pc0 := 43) (pc' := 47) rfl (hb hby at_43) (by decide) (by decide) ?_
      show Steps p.tables e below (T10.setTop (mkF m 47 #[.val (.long p1), .second, .val (.long p2), .second, .val (.long w1), .second, .val (.long w2), .second, .val (.long w3), .second] [(.int (1 : Int32))])) _
      rw [show w4 = (1 : Int32) from by rw [qw4, if_pos c39_11]] at k
      exact k
    · refine XS.ifYes X10.here hx rfl (pc0 := 39) (pc' := 46) rfl (hb hby at_39) rfl (XT.ll_ne_t c39_11) (by decide) (by decide) ?_
      show Steps p.tables e below (T10.setTop (mkF m 46 #[.val (.long p1), .second, .val (.long p2), .second, .val (.long w1), .second, .val (.long w2), .second, .val (.long w3), .second] [])) _
      refine XT.iconstV X10.here hx rfl (0 : Int32) (hb hby at_46) rfl ?_
      show Steps p.tables e below (T10.setTop (mkF m 47 #[.val (.long p1), .second, .val (.long p2), .second, .val (.long w1), .second, .val (.long w2), .second, .val (.long w3), .second] [(.int (0 : Int32))])) _
      rw [show w4 = (0 : Int32) from by rw [qw4, if_neg c39_11]] at k
      exact k
  have hfin := (own_law p1 p2 w1 qw1 w2 qw2 w3 qw3 w4 qw4)
  refine OwnWp.retZ X10 hx hlk Bd.returns (hb hby at_47) (by decide) (by decide) (Or.inr hfin) ?_
  exact ⟨by rw [hfin], N10⟩
set_option maxRecDepth 65536 in
set_option maxHeartbeats 40000000 in
theorem comes_1 {Post : Tables → Env → Array Value → State → Outcome → State → Prop} (hpost : ∀ tb e args s v u, (limb_1_1.after args s (.returned v) u = true ∧ limb_1_2.after args s (.returned v) u = true ∧ True) → FrameEnd s (.returned v) u (Jvm.fieldLocs frame_1_writes args s ++ Jvm.arrayLocs frame_1_arrays args s ++ Jvm.staticLocs frame_1_statics s) 0 0 → Post tb e args s (.returned v) u) :
    ArmFor flags0 classFile x code maxLocals ret World_1 tables_1 room_1 Calls_1 rest_1 Pre_1 Post := by
  intro l hfl _ _ p e ha hc hk s m args below hf hA hF happ hP
  obtain ⟨hcalls, hrest, hpre⟩ := hP
  obtain ⟨-, -, -, hnamed, -, -, -, hat⟩ := (Spec.applies_iff hf).mp happ
  obtain ⟨hg, hn⟩ := and_e (Cond.before_iff.mp (show (Jvm.Cond.and given_1 narrow_1).before args s = true from hpre))
  obtain ⟨hcount, g0⟩ := and_e hg
  obtain ⟨w0, w1, rfl⟩ : ∃ w0 w1 : Value, args = #[w0, w1] := by
    have hs : args.size = 2 := by simpa [Cond.value, given_1] using hcount
    obtain ⟨L⟩ := args
    match L, hs with
    | [w0, w1], _ => exact ⟨w0, w1, rfl⟩
  have hw := fun d (hd : d ∈ tables_1) => atoms_spec (ws := Jvm.Cond.code x code maxLocals ret :: tables_1) hat d (List.mem_cons_of_mem _ hd)
  obtain ⟨u0, g1⟩ := and_e g0
  obtain ⟨i0, e0⟩ := isL_v u0
  obtain rfl : w0 = (.long i0) := Option.some.inj e0
  obtain ⟨i1, e1⟩ := isL_v g1
  obtain rfl : w1 = (.long i1) := Option.some.inj e1
  obtain ⟨n, o, h1, h2, h3, _, L, rfl, ⟨rfl, N⟩, hq⟩ := rm0 l s _ hw tables_1 i0 i1 s.heap s.heap.size (Nat.le_refl _) p e ha hc hk s m _ below hf ((Spec.applies_iff_loose hf).mp happ).1 ⟨rfl, State.Warmed39.refl s, rfl⟩ trivial
  refine ⟨n, _, h1, h2, h3, hpost _ _ _ _ _ _ ⟨Cond.after_iff.mpr rfl, Cond.after_iff.mpr (eq_i res_at (Term.int_eval (1)) rfl), trivial⟩ ⟨hq.1, hq.2.1, (hq.2.2.sift fun y hy => Or.inr (N y hy)).mono (by decide) (by decide)⟩⟩
theorem main_1_1 : Claimed_1_1 := comes_1 fun _ _ _ _ _ _ h hF => ⟨h.1, hF⟩
theorem main_1_2 : Claimed_1_2 := comes_1 fun _ _ _ _ _ _ h hF => ⟨h.2.1, hF⟩
end Jvm.Pilot.@@N@@
namespace Jvm.Pilot.@@N@@
open Jvm Jvm.ClassFile Sem Op Lib Jvm.Free Jvm.Stand Jvm.Pilot.@@N@@.Jvm.D
/-! MADE BY PROGRAM (witnessworld.py) out of the Statement's table words and the real class files: 10 classes; the members and pool entries that the words name. The judged class is class 1, her method 1. -/
namespace start1
open Jvm.ClassFile
def u (s : String) : CpInfo := .utf8 (stringToUtf16 s)
/-- a pool by its gaps: so many unusable entries, then the entry; so many at the end -/
def gap : Nat → List CpInfo → List CpInfo
  | 0, r => r
  | n + 1, r => .unusable :: gap n r
def poolList (es : List (Nat × CpInfo)) (last : Nat) : List CpInfo := es.foldr (fun e r => gap e.1 (e.2 :: r)) (gap last [])
def pool (es : List (Nat × CpInfo)) (last : Nat) : Array CpInfo := ⟨poolList es last⟩
def fileOf (pool : Array CpInfo) (this : Nat) (attrs : Array Attribute := #[]) (ms : Array MethodInfo := #[]) (fl : Nat := 33) (sup : Nat := 0) (ifs : Array Nat := #[]) (fds : Array FieldInfo := #[]) : ClassFile where
  minorVersion := 0
  majorVersion := 65
  constantPool := pool
  accessFlags := fl
  thisClass := this
  superClass := sup
  interfaces := ifs
  fields := fds
  methods := ms
  attributes := attrs
def plain (name : String) (sup : Option ClassId) : Class where
  name := name
  kind := .ordinary
  loader := none
  accessFlags := 33
  super := sup
  interfaces := #[]
  cf := none
  fields := #[]
  methods := #[]
  instanceTypes := #[]
  staticTypes := #[]
  resolved := #[]
  callSites := []
  init := .initialized
  statics := none
  mirror := none

def pool0 : Array CpInfo := pool [(5, u "<init>"), (0, u "()V"), (1, .class_ 10), (1, u "java/lang/Object")] 113

def k0m0 : Method := { name := "<init>", desc := "()V", sig := { parameters := [], returnType := none }, accessFlags := 1, code := none }
/-- java/lang/Object -/
def k0 : Class := { plain "java/lang/Object" none with
  accessFlags := 33
  interfaces := #[]
  cf := some (fileOf pool0 8 #[] #[{ accessFlags := 1, nameIndex := 5, descriptorIndex := 6, attributes := #[] }] 33 0 #[] #[])
  fields := #[]
  methods := #[k0m0]
  instanceTypes := #[]
  staticTypes := #[]
  resolved := Array.replicate 124 none
  statics := none }

def pool1 : Array CpInfo := pool [(2, .class_ 4), (1, u "java/lang/Object"), (0, u "<init>"), (0, u "()V"), (2, .long 9223372036854775807), (1, .class_ 12), (0, u "com/example/aldaba/aldaba/Quorum"), (0, .long 9223372036854), (1, .methodref 11 16), (0, .nameAndType 17 18), (0, u "validityMillis"), (0, u "(JJ)J"), (0, .methodref 20 21), (0, .class_ 22), (0, .nameAndType 23 18), (0, u "com/example/aldaba/aldaba/QuorumValidityMillisPinLaw"), (0, u "reference"), (0, .long 1000000), (1, .long 100), (1, .long 10000), (1, .long 2), (3, u "law"), (0, u "(JJ)Z")] 3

def k1m0 : Method := { name := "<init>", desc := "()V", sig := { parameters := [], returnType := none }, accessFlags := 1, code := none }
def k1c1 : Code := { maxStack := 6, maxLocals := 10, code := code, exceptionTable := #[], attributes := #[] }
def k1m1 : Method := { name := "law", desc := "(JJ)Z", sig := { parameters := [.long, .long], returnType := some .boolean }, accessFlags := 9, code := some k1c1 }
def k1c2 : Code := { maxStack := 6, maxLocals := 12, code := method_3_code, exceptionTable := #[], attributes := #[] }
def k1m2 : Method := { name := "reference", desc := "(JJ)J", sig := { parameters := [.long, .long], returnType := some .long }, accessFlags := 10, code := some k1c2 }
/-- com/example/aldaba/aldaba/QuorumValidityMillisPinLaw -/
def k1 : Class := { plain "com/example/aldaba/aldaba/QuorumValidityMillisPinLaw" (some 0) with
  accessFlags := 49
  interfaces := #[]
  cf := some (fileOf pool1 20 #[] #[{ accessFlags := 1, nameIndex := 5, descriptorIndex := 6, attributes := #[] }, { accessFlags := 9, nameIndex := 34, descriptorIndex := 35, attributes := #[] }, { accessFlags := 10, nameIndex := 23, descriptorIndex := 18, attributes := #[] }] 49 2 #[] #[])
  fields := #[]
  methods := #[k1m0, k1m1, k1m2]
  instanceTypes := #[]
  staticTypes := #[]
  resolved := Array.replicate 39 none
  statics := none }

def pool2 : Array CpInfo := pool [(1, .class_ 2), (0, u "com/example/aldaba/aldaba/Quorum"), (3, .class_ 8), (1, u "java/lang/Object"), (13, u "servers"), (0, u "I"), (7, .methodref 1 32), (0, .nameAndType 33 34), (0, u "checkLeaseLength"), (0, u "(J)V"), (3, .long 1000000), (1, .long 10000), (1, .methodref 43 44), (0, .class_ 45), (0, .nameAndType 46 47), (0, u "java/lang/Math"), (0, u "floorDiv"), (0, u "(JJ)J"), (0, .long 9223372036854), (2, u "NANOS_PER_MILLI"), (0, u "J"), (1, u "DRIFT_NANOS_PER_MILLI"), (0, u "MAX_TTL_MILLIS"), (6, u "validityMillis")] 23

def k2c0 : Code := { maxStack := 4, maxLocals := 10, code := prog_9_method_4_code, exceptionTable := #[], attributes := #[] }
def k2m0 : Method := { name := "validityMillis", desc := "(JJ)J", sig := { parameters := [.long, .long], returnType := some .long }, accessFlags := 9, code := some k2c0 }
def k2c1 : Code := { maxStack := 4, maxLocals := 2, code := prog_9_method_5_code, exceptionTable := #[], attributes := #[] }
def k2m1 : Method := { name := "checkLeaseLength", desc := "(J)V", sig := { parameters := [.long], returnType := none }, accessFlags := 8, code := some k2c1 }
/-- com/example/aldaba/aldaba/Quorum -/
def k2 : Class := { plain "com/example/aldaba/aldaba/Quorum" (some 0) with
  accessFlags := 33
  interfaces := #[]
  cf := some (fileOf pool2 1 #[] #[{ accessFlags := 9, nameIndex := 62, descriptorIndex := 47, attributes := #[] }, { accessFlags := 8, nameIndex := 33, descriptorIndex := 34, attributes := #[] }] 33 6 #[] #[{ accessFlags := 26, nameIndex := 51, descriptorIndex := 52, attributes := #[] }, { accessFlags := 26, nameIndex := 54, descriptorIndex := 52, attributes := #[] }, { accessFlags := 25, nameIndex := 55, descriptorIndex := 52, attributes := #[] }, { accessFlags := 18, nameIndex := 22, descriptorIndex := 23, attributes := #[] }])
  fields := #[{ name := "NANOS_PER_MILLI", type := .long, accessFlags := 26, slot := 0, constantValue := 0 }, { name := "DRIFT_NANOS_PER_MILLI", type := .long, accessFlags := 26, slot := 1, constantValue := 0 }, { name := "MAX_TTL_MILLIS", type := .long, accessFlags := 25, slot := 2, constantValue := 0 }, { name := "servers", type := .int, accessFlags := 18, slot := 0, constantValue := 0 }]
  methods := #[k2m0, k2m1]
  instanceTypes := #[.int]
  staticTypes := #[.long, .long, .long]
  resolved := Array.replicate 86 none
  statics := none }

def pool3 : Array CpInfo := pool [(1, .class_ 2), (0, u "java/lang/Math"), (1, .class_ 6), (1, u "java/lang/Object"), (0, u "<init>"), (0, u "()V"), (89, .class_ 100), (1, u "java/lang/Math$RandomNumberGeneratorHolder"), (20, u "(JJ)J"), (23, u "floorDiv"), (26, u "negativeZeroFloatBits"), (0, u "J"), (2, u "negativeZeroDoubleBits"), (68, u "$assertionsDisabled"), (0, u "Z"), (91, u "twoToTheDoubleScaleDown"), (0, u "D"), (4, u "twoToTheDoubleScaleUp"), (9, u "E"), (3, u "PI"), (2, u "TAU"), (2, u "DEGREES_TO_RADIANS"), (0, u "RADIANS_TO_DEGREES")] 94

def k3m0 : Method := { name := "<init>", desc := "()V", sig := { parameters := [], returnType := none }, accessFlags := 2, code := none }
def k3c1 : Code := { maxStack := 4, maxLocals := 6, code := jdk_29_method_49_code, exceptionTable := #[], attributes := #[] }
def k3m1 : Method := { name := "floorDiv", desc := "(JJ)J", sig := { parameters := [.long, .long], returnType := some .long }, accessFlags := 9, code := some k3c1 }
/-- java/lang/Math -/
def k3 : Class := { plain "java/lang/Math" (some 0) with
  accessFlags := 49
  interfaces := #[]
  cf := some (fileOf pool3 1 #[.nestMembers #[98]] #[{ accessFlags := 2, nameIndex := 7, descriptorIndex := 8, attributes := #[] }, { accessFlags := 9, nameIndex := 145, descriptorIndex := 121, attributes := #[] }] 49 4 #[] #[{ accessFlags := 25, nameIndex := 354, descriptorIndex := 339, attributes := #[] }, { accessFlags := 25, nameIndex := 358, descriptorIndex := 339, attributes := #[] }, { accessFlags := 25, nameIndex := 361, descriptorIndex := 339, attributes := #[] }, { accessFlags := 26, nameIndex := 364, descriptorIndex := 339, attributes := #[] }, { accessFlags := 26, nameIndex := 365, descriptorIndex := 339, attributes := #[] }, { accessFlags := 26, nameIndex := 172, descriptorIndex := 173, attributes := #[] }, { accessFlags := 26, nameIndex := 176, descriptorIndex := 173, attributes := #[] }, { accessFlags := 8, nameIndex := 344, descriptorIndex := 339, attributes := #[] }, { accessFlags := 8, nameIndex := 338, descriptorIndex := 339, attributes := #[] }, { accessFlags := 4120, nameIndex := 245, descriptorIndex := 246, attributes := #[] }])
  fields := #[{ name := "E", type := .double, accessFlags := 25, slot := 0, constantValue := 0 }, { name := "PI", type := .double, accessFlags := 25, slot := 1, constantValue := 0 }, { name := "TAU", type := .double, accessFlags := 25, slot := 2, constantValue := 0 }, { name := "DEGREES_TO_RADIANS", type := .double, accessFlags := 26, slot := 3, constantValue := 0 }, { name := "RADIANS_TO_DEGREES", type := .double, accessFlags := 26, slot := 4, constantValue := 0 }, { name := "negativeZeroFloatBits", type := .long, accessFlags := 26, slot := 5, constantValue := 0 }, { name := "negativeZeroDoubleBits", type := .long, accessFlags := 26, slot := 6, constantValue := 0 }, { name := "twoToTheDoubleScaleUp", type := .double, accessFlags := 8, slot := 7, constantValue := 0 }, { name := "twoToTheDoubleScaleDown", type := .double, accessFlags := 8, slot := 8, constantValue := 0 }, { name := "$assertionsDisabled", type := .boolean, accessFlags := 4120, slot := 9, constantValue := 0 }]
  methods := #[k3m0, k3m1]
  instanceTypes := #[]
  staticTypes := #[.double, .double, .double, .double, .double, .long, .long, .double, .double, .boolean]
  resolved := Array.replicate 460 none
  statics := none }

def pool4 : Array CpInfo := pool [(1, u "java/lang/Cloneable"), (0, .class_ 1), (0, u "java/lang/Object"), (0, .class_ 3)] 3

/-- java/lang/Cloneable -/
def k4 : Class := { plain "java/lang/Cloneable" (some 0) with
  accessFlags := 1537
  interfaces := #[]
  cf := some (fileOf pool4 2 #[] #[] 1537 4 #[] #[])
  fields := #[]
  methods := #[]
  instanceTypes := #[]
  staticTypes := #[]
  resolved := Array.replicate 8 none
  statics := none }

def pool5 : Array CpInfo := pool [(1, u "java/io/Serializable"), (0, .class_ 1), (0, u "java/lang/Object"), (0, .class_ 3)] 3

/-- java/io/Serializable -/
def k5 : Class := { plain "java/io/Serializable" (some 0) with
  accessFlags := 1537
  interfaces := #[]
  cf := some (fileOf pool5 2 #[] #[] 1537 4 #[] #[])
  fields := #[]
  methods := #[]
  instanceTypes := #[]
  staticTypes := #[]
  resolved := Array.replicate 8 none
  statics := none }

/-- the primitive byte -/
def k6 : Class := { plain "byte" none with kind := .primitive 'B', accessFlags := 0x411 }
/-- [B -/
def k7 : Class := { plain "[B" (some 0) with kind := .array 6 .byte, interfaces := #[4, 5], accessFlags := 1041 }

/-- the primitive int -/
def k8 : Class := { plain "int" none with kind := .primitive 'I', accessFlags := 0x411 }
/-- [I -/
def k9 : Class := { plain "[I" (some 0) with kind := .array 8 .int, interfaces := #[4, 5], accessFlags := 1041 }

def heap : Heap := #[]
def classes : Array Class := #[k0, k1, k2, k3, k4, k5, k6, k7, k8, k9]
def interned : List (Array UInt16 × Addr) := []
def slotsUsed : Nat := 0
def theMethod : MethodId := ⟨1, 1⟩
def args0 : Array Value := #[.long 5, .long 3]
def aboutOver (below : List Frame) : State where
  vm := { classes := classes, interned := interned.toArray }
  heap := heap
  slotsUsed := slotsUsed
  threads := #[{ frames := .invoking theMethod args0 :: below }]
def below0 : List Frame := [.native { method := ⟨0, 0⟩, args := #[] }]
def about1 : State := aboutOver below0
def p0 : Program := .bare "" "" ""
def e0 : Env := launch0.env 0 0 0
theorem w_frames : about1.frames = Frame.invoking theMethod args0 :: below0 := rfl
set_option maxRecDepth 65536 in
theorem w_args : argsFit about1.vm theMethod args0 = true := by decide +kernel
set_option maxRecDepth 65536 in
theorem w_heap : heapFits about1 = true := by decide +kernel
set_option maxRecDepth 65536 in
theorem w_runnable : about1.curStatus? = some .runnable := by decide +kernel
set_option maxRecDepth 65536 in
theorem w_alone : about1.alone = true := by decide +kernel
set_option maxRecDepth 65536 in
theorem w_named : about1.methodNamed? x = some theMethod := by decide +kernel
set_option maxRecDepth 65536 in
theorem w_hears : about1.hears theMethod below0 = true := by decide +kernel
set_option maxRecDepth 65536 in
theorem w_ripe : about1.ripe theMethod args0 below0 = true := by decide +kernel
theorem w_running : about1.status = .running := rfl
set_option maxRecDepth 65536 in
theorem w_room : about1.hasRoom e0.platform room_1 = true :=
  launch0.hasRoom_least _ room_1 (by decide +kernel) (by decide +kernel) (by decide +kernel) (by decide +kernel) (by decide +kernel) (by decide +kernel)
theorem allAtoms_all (ts : List Jvm.Cond) (a : Array Jvm.Value) (st : Jvm.State) : (allAtoms ts).before a st = ts.all (fun c => c.before a st) := by
  induction ts with
  | nil => rfl
  | cons c t ih =>
    show (Jvm.Cond.and c (allAtoms t)).before a st = _
    rw [Jvm.Cond.before_and, ih, List.all_cons]
def words1 : List Jvm.Cond := Jvm.Cond.code x code maxLocals ret :: tables_1
/-- a 'code' word, met by the world's own term for the bytes: nothing is compared byte by byte -/
theorem code_word {y : MethodName} {bytes : ByteArray} {mx : Nat} {rt : Option FieldType} {a : Array Value} {s : State} {m : MethodId} {meth : Method} {c : Code} (h1 : s.methodNamed? y = some m) (h2 : s.vm.method? m = some meth) (h3 : meth.code = some c) (h4 : c.code = bytes)
    (h5 : (c.maxLocals == mx && c.exceptionTable.isEmpty && decide (c.maxStack ≤ mostOperands) && decide (meth.sig.returnType = rt) && !meth.locks && decide (parseMethodDescriptor y.desc = some meth.sig)) = true) : (Jvm.Cond.code y bytes mx rt).before a s = true := by
  simp only [Bool.and_eq_true, beq_iff_eq, Bool.not_eq_true', decide_eq_true_eq] at h5
  obtain ⟨⟨⟨⟨⟨g1, g2⟩, g3⟩, g4⟩, g5⟩, g6⟩ := h5
  simp [Cond.before, Cond.holds, Cond.value, h1, h2, h3, h4, g1, g2, g3, g4, g5, g6]
def isCode : Jvm.Cond → Bool
  | .code _ _ _ _ => true
  | _ => false
theorem all_split {L : List Jvm.Cond} {P : Jvm.Cond → Bool} (h1 : L.all (fun c => isCode c || P c) = true) (h2 : ∀ c ∈ L.filter isCode, P c = true) : L.all P = true := by
  refine List.all_eq_true.mpr fun c hc => ?_
  have h := List.all_eq_true.mp h1 c hc
  rcases Bool.eq_false_or_eq_true (isCode c) with hi | hi
  · exact h2 c (List.mem_filter.mpr ⟨hc, hi⟩)
  · simpa [hi] using h
set_option maxRecDepth 65536 in
theorem w_c0 : (Jvm.Cond.code x code maxLocals ret).before args0 about1 = true := code_word (m := ⟨1, 1⟩) (meth := k1m1) (c := k1c1) (by decide +kernel) rfl rfl rfl (by decide +kernel)
set_option maxRecDepth 65536 in
theorem w_c1 : (Jvm.Cond.code ({ cls := "com/example/aldaba/aldaba/Quorum", name := "validityMillis", desc := "(JJ)J" } : Jvm.MethodName) prog_9_method_4_code (10 : Nat) (Option.some Jvm.ClassFile.FieldType.long)).before args0 about1 = true := code_word (m := ⟨2, 0⟩) (meth := k2m0) (c := k2c0) (by decide +kernel) rfl rfl rfl (by decide +kernel)
set_option maxRecDepth 65536 in
theorem w_c2 : (Jvm.Cond.code ({ cls := "com/example/aldaba/aldaba/Quorum", name := "checkLeaseLength", desc := "(J)V" } : Jvm.MethodName) prog_9_method_5_code (2 : Nat) (Option.none : Option Jvm.ClassFile.FieldType)).before args0 about1 = true := code_word (m := ⟨2, 1⟩) (meth := k2m1) (c := k2c1) (by decide +kernel) rfl rfl rfl (by decide +kernel)
set_option maxRecDepth 65536 in
theorem w_c3 : (Jvm.Cond.code ({ cls := "java/lang/Math", name := "floorDiv", desc := "(JJ)J" } : Jvm.MethodName) jdk_29_method_49_code (6 : Nat) (Option.some Jvm.ClassFile.FieldType.long)).before args0 about1 = true := code_word (m := ⟨3, 1⟩) (meth := k3m1) (c := k3c1) (by decide +kernel) rfl rfl rfl (by decide +kernel)
set_option maxRecDepth 65536 in
theorem w_c4 : (Jvm.Cond.code ({ cls := "com/example/aldaba/aldaba/QuorumValidityMillisPinLaw", name := "reference", desc := "(JJ)J" } : Jvm.MethodName) method_3_code (12 : Nat) (Option.some Jvm.ClassFile.FieldType.long)).before args0 about1 = true := code_word (m := ⟨1, 2⟩) (meth := k1m2) (c := k1c2) (by decide +kernel) rfl rfl rfl (by decide +kernel)
def codes1 : List Jvm.Cond := [Jvm.Cond.code x code maxLocals ret, Jvm.Cond.code ({ cls := "com/example/aldaba/aldaba/Quorum", name := "validityMillis", desc := "(JJ)J" } : Jvm.MethodName) prog_9_method_4_code (10 : Nat) (Option.some Jvm.ClassFile.FieldType.long), Jvm.Cond.code ({ cls := "com/example/aldaba/aldaba/Quorum", name := "checkLeaseLength", desc := "(J)V" } : Jvm.MethodName) prog_9_method_5_code (2 : Nat) (Option.none : Option Jvm.ClassFile.FieldType), Jvm.Cond.code ({ cls := "java/lang/Math", name := "floorDiv", desc := "(JJ)J" } : Jvm.MethodName) jdk_29_method_49_code (6 : Nat) (Option.some Jvm.ClassFile.FieldType.long), Jvm.Cond.code ({ cls := "com/example/aldaba/aldaba/QuorumValidityMillisPinLaw", name := "reference", desc := "(JJ)J" } : Jvm.MethodName) method_3_code (12 : Nat) (Option.some Jvm.ClassFile.FieldType.long)]
set_option maxRecDepth 65536 in
theorem codes_eq : words1.filter isCode = codes1 := rfl
theorem w_codes : ∀ c ∈ words1.filter isCode, c.before args0 about1 = true := by
  rw [codes_eq]
  intro c hc
  simp only [codes1, List.mem_cons, List.not_mem_nil, or_false] at hc
  rcases hc with rfl | rfl | rfl | rfl | rfl
  · exact w_c0
  · exact w_c1
  · exact w_c2
  · exact w_c3
  · exact w_c4
set_option maxRecDepth 65536 in
theorem w_t1 : (words1.take 24).all (fun c => isCode c || c.before args0 about1) = true := by decide +kernel
set_option maxRecDepth 65536 in
theorem w_t2 : (words1.drop 24).all (fun c => isCode c || c.before args0 about1) = true := by decide +kernel
theorem w_tables : (allAtoms (Jvm.Cond.code x code maxLocals ret :: tables_1)).before args0 about1 = true := by
  rw [allAtoms_all]
  show words1.all (fun c => c.before args0 about1) = true
  refine all_split ?_ w_codes
  rw [← List.take_append_drop 24 words1, List.all_append, w_t1, w_t2]
  rfl
set_option maxRecDepth 65536 in
theorem w_case : (Jvm.Cond.and given_1 narrow_1).before args0 about1 = true := by decide +kernel
theorem w_applies : (headSpec (Jvm.Cond.code x code maxLocals ret :: tables_1) room_1).applies x e0.platform about1 = true :=
  (Spec.applies_iff w_frames).mpr ⟨w_running, w_runnable, w_alone, w_named, w_hears, w_ripe, w_room, w_tables⟩
theorem atStart : AtStart classFile x code maxLocals ret World_1 tables_1 room_1 Calls_1 rest_1 Pre_1 launch0 p0 e0 about1 theMethod args0 below0 :=
  ⟨lists_1, trivial, launch0.admits_env _ _ _, launch0.least_env, fairChoices_fair.cas, fairChoices_fair.clock, w_frames, w_args, w_heap, w_applies, trivial, trivial, w_case⟩
end start1
theorem witness_1 : WitnessClaimed_1 := ⟨start1.p0, start1.e0, start1.about1, start1.theMethod, start1.args0, start1.below0, start1.atStart⟩
end Jvm.Pilot.@@N@@
