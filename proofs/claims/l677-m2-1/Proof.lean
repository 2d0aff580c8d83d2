import JvmDerived
import JvmDerived.Pilot.@@N@@Statement
import JvmDerived.Pilot.@@N@@Code
set_option linter.unusedVariables false
set_option linter.unusedSimpArgs false
set_option maxHeartbeats 2000000
namespace Jvm.Pilot.@@N@@
open Jvm Jvm.ClassFile Sem Op Lib Jvm.Free Jvm.Stand Jvm.LawKit Jvm.RoadKit Bundle Jvm.Pilot.@@N@@.Jvm.D
section OwnKit
variable {p : Program} {l : Launch} {e : Env} {R : Room} {s : State} {m : MethodId} {args : Array Value} {below : List Frame} {meth : Method} {c : Code} {T : State} {locs : List Loc} {cells slots : Nat} {Z : State} {h h' : Heap} {a b : Addr}
def OwnWp (p : Program) (e : Env) (below : List Frame) (s : State) (C S : Nat) (Q : Option Value → Heap → List Loc → Prop) (U : State) : Prop :=
  ∃ s₂ o, Steps p.tables e below U s₂ ∧ s₂.status = .running ∧ Ended s₂ below o ∧ ∃ v L, o = .returned v ∧ Q v s₂.heap L ∧ FrameEnd s o s₂ L C S
variable {C S : Nat} {Q : Option Value → Heap → List Loc → Prop}
theorem OwnWp.step {U U' : State} (hs : ∀ t, Steps p.tables e below U' t → Steps p.tables e below U t) (k : OwnWp p e below s C S Q U') : OwnWp p e below s C S Q U := by
  obtain ⟨s2, o, h1, r⟩ := k
  exact ⟨s2, o, hs _ h1, r⟩
theorem OwnWp.go {U U' : State} (hs : Steps p.tables e below U U') (k : OwnWp p e below s C S Q U') : OwnWp p e below s C S Q U := k.step fun _ q => hs.trans q
theorem OwnWp.cast {g g' : JFrame} (q : g = g') (k : OwnWp p e below s C S Q (T.setTop g')) : OwnWp p e below s C S Q (T.setTop g) := q ▸ k
theorem OwnWp.retI (X : Stand p l e R s m args below meth c T locs cells slots) (hx : p.tables.exec = Jvm.exec) (hlk : meth.locks = false) (hret : meth.sig.returnType = some .int) {pc : Nat} {Ls : Array Slot} {z : Int32} {rest : List Value} (hd : decode c.code pc = .ok (.ireturn, 1)) (hC : cells ≤ C) (hS : slots ≤ S) (hQ : Q (some (.int z)) T.heap locs) :
    OwnWp p e below s C S Q (T.setTop (mkF m pc Ls (.int z :: rest))) := by
  obtain ⟨fs, hr, hrun, hended, hW, hsame⟩ := X.leave (v := some (.int z)) (fun h => by rw [hret] at h; cases h) hlk
  exact ⟨_, _, retOut X hx hret rfl (Or.inl ⟨rfl, Or.inl rfl, z, rfl⟩) hd hr, hrun, hended, _, _, rfl, hQ, ⟨_, rfl⟩, hW, hsame.mono hC hS⟩
theorem OwnWp.retJ (X : Stand p l e R s m args below meth c T locs cells slots) (hx : p.tables.exec = Jvm.exec) (hlk : meth.locks = false) (hret : meth.sig.returnType = some .long) {pc : Nat} {Ls : Array Slot} {z : Int64} {rest : List Value} (hd : decode c.code pc = .ok (.lreturn, 1)) (hC : cells ≤ C) (hS : slots ≤ S) (hQ : Q (some (.long z)) T.heap locs) :
    OwnWp p e below s C S Q (T.setTop (mkF m pc Ls (.long z :: rest))) := by
  obtain ⟨fs, hr, hrun, hended, hW, hsame⟩ := X.leave (v := some (.long z)) (fun h => by rw [hret] at h; cases h) hlk
  exact ⟨_, _, retOut X hx hret rfl (Or.inr (Or.inl ⟨rfl, rfl, z, rfl⟩)) hd hr, hrun, hended, _, _, rfl, hQ, ⟨_, rfl⟩, hW, hsame.mono hC hS⟩
theorem OwnWp.retA (X : Stand p l e R s m args below meth c T locs cells slots) (hx : p.tables.exec = Jvm.exec) (hlk : meth.locks = false) {t : FieldType} (hret : meth.sig.returnType = some t) (ht : t.isReference = true) {pc : Nat} {Ls : Array Slot} {z : Addr} {rest : List Value} (hn : narrow t (.ref z) = .ref z) (hd : decode c.code pc = .ok (.areturn, 1)) (hC : cells ≤ C) (hS : slots ≤ S) (hQ : Q (some (.ref z)) T.heap locs) :
    OwnWp p e below s C S Q (T.setTop (mkF m pc Ls (.ref z :: rest))) := by
  obtain ⟨fs, hr, hrun, hended, hW, hsame⟩ := X.leave (v := some (.ref z)) (fun h => by rw [hret] at h; cases h) hlk
  exact ⟨_, _, retOut X hx hret hn (Or.inr (Or.inr (Or.inr (Or.inr ⟨rfl, ht, rfl⟩)))) hd hr, hrun, hended, _, _, rfl, hQ, ⟨_, rfl⟩, hW, hsame.mono hC hS⟩
theorem OwnWp.retZ (X : Stand p l e R s m args below meth c T locs cells slots) (hx : p.tables.exec = Jvm.exec) (hlk : meth.locks = false) (hret : meth.sig.returnType = some .boolean) {pc : Nat} {Ls : Array Slot} {z : Int32} {rest : List Value} (hd : decode c.code pc = .ok (.ireturn, 1)) (hC : cells ≤ C) (hS : slots ≤ S) (hz : z = 0 ∨ z = 1) (hQ : Q (some (.int z)) T.heap locs) :
    OwnWp p e below s C S Q (T.setTop (mkF m pc Ls (.int z :: rest))) := by
  have hn : nar .boolean z = z := by rcases hz with rfl | rfl <;> rfl
  obtain ⟨fs, hr, hrun, hended, hW, hsame⟩ := X.leave (v := some (.int (nar .boolean z))) (fun h => by rw [hret] at h; cases h) hlk
  exact ⟨_, _, retN X hx hret (Or.inl rfl) hd hr, hrun, hended, _, _, rfl, by rw [hn]; exact hQ, ⟨_, rfl⟩, hW, hsame.mono hC hS⟩
theorem OwnWp.retV (X : Stand p l e R s m args below meth c T locs cells slots) (hx : p.tables.exec = Jvm.exec) (hlk : meth.locks = false) (hret : meth.sig.returnType = none) {pc : Nat} {Ls : Array Slot} (hd : decode c.code pc = .ok (.return_, 1)) (hC : cells ≤ C) (hS : slots ≤ S) (hQ : Q none T.heap locs) :
    OwnWp p e below s C S Q (T.setTop (mkF m pc Ls [])) := by
  obtain ⟨fs, hr, hrun, hended, hW, hsame⟩ := X.leave (v := none) (fun _ => rfl) hlk
  exact ⟨_, _, X.returnOut hx hret hd hr, hrun, hended, _, _, rfl, hQ, ⟨_, rfl⟩, hW, hsame.mono hC hS⟩
theorem own_widen {cells' slots' : Nat} (X : Stand p l e R s m args below meth c T locs cells slots) (h1 : cells ≤ cells') (h2 : slots ≤ slots') : Stand p l e R s m args below meth c T locs cells' slots' := { X with same := X.same.mono h1 h2 }
theorem own_lrem {g : JFrame} {target : State} (X : Stand p l e R s m args below meth c T locs cells slots) (hx : p.tables.exec = Jvm.exec) (hg : g.method = m) {x y : Int64} {rest : List Value} (hd : decode c.code g.pc = .ok (.lrem, 1)) (hs : g.stack = .long y :: .long x :: rest) (hy : y ≠ 0)
    (hr : Steps p.tables e below (T.setTop { g with pc := g.pc + 1, stack := .long (x % y) :: rest }) target) : Steps p.tables e below (T.setTop g) target :=
  XT.lrem X.here hx hg hd hs hy (by rw [lrem_mod]; exact hr)
/-- an array: its kind, its length, what place i holds -/
def OwnA (Z : State) (h : Heap) (a : Addr) (ty : FieldType) (n : Int32) (f : Int → Value) : Prop :=
  ∃ cl : Cell, Arr Z h a cl ty ∧ (cl.slots.size : Int) = n.toInt ∧ ∀ i : Int, 0 ≤ i → i < n.toInt → cl.slots[i.toNat]? = some (f i)
def ownUpd {α : Type} (f : Int → α) (j : Int) (x : α) : Int → α := fun i => if i = j then x else f i
theorem ownUpd_same {α : Type} (f : Int → α) (j : Int) (x : α) : ownUpd f j x j = x := if_pos rfl
theorem ownUpd_ne {α : Type} (f : Int → α) (j : Int) (x : α) {i : Int} (q : i ≠ j) : ownUpd f j x i = f i := if_neg q
variable {ty : FieldType} {n : Int32} {f : Int → Value} {ws : List Addr}
theorem OwnA.lt (F : OwnA Z h a ty n f) : a < h.size := by obtain ⟨_, A, -⟩ := F; exact A.lt
theorem OwnA.ext (F : OwnA Z h a ty n f) (E : Ext h h') : OwnA Z h' a ty n f := by obtain ⟨cl, A, r⟩ := F; exact ⟨cl, A.ext E, r⟩
theorem OwnA.keep (F : OwnA Z h a ty n f) (K : Keep h h' ws) (q : a ∉ ws) : OwnA Z h' a ty n f := by obtain ⟨cl, A, r⟩ := F; exact ⟨cl, ⟨K.2.1 a cl A.1 q, A.2⟩, r⟩
theorem OwnA.other {sl : Nat} {v : Value} (F : OwnA Z h b ty n f) (W : Wr h h' a sl v) (q : b ≠ a) : OwnA Z h' b ty n f := by obtain ⟨cl, A, r⟩ := F; exact ⟨cl, A.other W q, r⟩
theorem OwnA.len (F : OwnA Z h a ty n f) : 0 ≤ n.toInt := by obtain ⟨cl, _, r, _⟩ := F; omega
theorem OwnA.congr {f' : Int → Value} (F : OwnA Z h a ty n f) (q : ∀ i, 0 ≤ i → i < n.toInt → f i = f' i) : OwnA Z h a ty n f' := by obtain ⟨cl, A, r1, r2⟩ := F; exact ⟨cl, A, r1, fun i h1 h2 => by rw [← q i h1 h2]; exact r2 i h1 h2⟩
theorem own_clamp (j : Int32) : j.toNatClampNeg = j.toInt.toNat := rfl
theorem own_in {cl : Cell} {j : Int32} (r : (cl.slots.size : Int) = n.toInt) (h1 : 0 ≤ j.toInt) (h2 : j.toInt < n.toInt) : ¬ (j < 0 ∨ cl.slots.size ≤ j.toNatClampNeg) := by
  rw [own_clamp, Int32.lt_iff_toInt_lt, Int32.toInt_zero]; omega
theorem OwnA.new {k : ClassId} {z : Int32} (A : Arr Z h a (newA k ty z) ty) (q : 0 ≤ z.toInt) : OwnA Z h a ty z (fun _ => defaultValue ty) := by
  refine ⟨_, A, ?_, fun i h1 h2 => ?_⟩
  · rw [sz_new, own_clamp]; omega
  · have hi : i.toNat < z.toNatClampNeg := by rw [own_clamp]; omega
    show (Array.replicate z.toNatClampNeg (defaultValue ty))[i.toNat]? = _
    rw [Array.getElem?_replicate, if_pos hi]
theorem OwnA.set {j : Int32} {v : Value} (F : OwnA Z h a ty n f) (h1 : 0 ≤ j.toInt) (h2 : j.toInt < n.toInt) (W : Wr h h' a j.toNatClampNeg v) : OwnA Z h' a ty n (ownUpd f j.toInt v) := by
  obtain ⟨cl, A, r1, r2⟩ := F
  refine ⟨_, A.same W, by rw [sz_set]; exact r1, fun i g1 g2 => ?_⟩
  by_cases q : i = j.toInt
  · subst q
    rw [ownUpd_same]
    have hi : j.toNatClampNeg < cl.slots.size := by rw [own_clamp]; omega
    exact Array.getElem?_setIfInBounds_self_of_lt hi
  · rw [ownUpd_ne _ _ _ q, ← r2 i g1 g2, own_clamp]
    exact Array.getElem?_setIfInBounds_ne (by omega)
variable {g : JFrame} {target : State} {rest : List Value} {j : Int32}
theorem OwnA.alen (X : Stand p l e R s m args below meth c T locs cells slots) (hx : p.tables.exec = Jvm.exec) (hZ : Z.Warmed39 s.vm) (eT : T.heap = h) (F : OwnA Z h a ty n f) (hg : g.method = m) (hs : g.stack = .ref a :: rest) (hd : decode c.code g.pc = .ok (.arraylength, 1))
    (hr : Steps p.tables e below (T.setTop { g with pc := g.pc + 1, stack := .int n :: rest }) target) : Steps p.tables e below (T.setTop g) target := by
  obtain ⟨cl, A, r1, r2⟩ := F
  subst eT
  refine X.arraylength hx A.1 (State.isArrayOf_alike hZ.alike A.2.1) hg hs hd target ?_
  have q : cl.slots.size.toInt32 = n := by
    have q0 : cl.slots.size = n.toNatClampNeg := by rw [own_clamp]; omega
    exact len_of q0 (by rw [Int32.lt_iff_toInt_lt, Int32.toInt_zero]; omega)
  rw [q]; exact hr
theorem OwnA.ldI (X : Stand p l e R s m args below meth c T locs cells slots) (hx : p.tables.exec = Jvm.exec) (hZ : Z.Warmed39 s.vm) (eT : T.heap = h) (F : OwnA Z h a .int n f) (h1 : 0 ≤ j.toInt) (h2 : j.toInt < n.toInt) (hg : g.method = m) (hs : g.stack = .int j :: .ref a :: rest) (hd : decode c.code g.pc = .ok (.iaload, 1))
    (hr : Steps p.tables e below (T.setTop { g with pc := g.pc + 1, stack := f j.toInt :: rest }) target) : Steps p.tables e below (T.setTop g) target := by
  obtain ⟨cl, A, r1, r2⟩ := F
  subst eT
  exact X.iaload hx A.1 (State.isArrayOf_alike hZ.alike A.2.1) A.2.2 (own_in r1 h1 h2) (r2 _ h1 h2) hg hs hd target hr
theorem OwnA.ldJ (X : Stand p l e R s m args below meth c T locs cells slots) (hx : p.tables.exec = Jvm.exec) (hZ : Z.Warmed39 s.vm) (eT : T.heap = h) (F : OwnA Z h a .long n f) (h1 : 0 ≤ j.toInt) (h2 : j.toInt < n.toInt) (hg : g.method = m) (hs : g.stack = .int j :: .ref a :: rest) (hd : decode c.code g.pc = .ok (.laload, 1))
    (hr : Steps p.tables e below (T.setTop { g with pc := g.pc + 1, stack := f j.toInt :: rest }) target) : Steps p.tables e below (T.setTop g) target := by
  obtain ⟨cl, A, r1, r2⟩ := F
  subst eT
  exact X.laload hx A.1 (State.isArrayOf_alike hZ.alike A.2.1) A.2.2 (own_in r1 h1 h2) (r2 _ h1 h2) hg hs hd target hr
theorem OwnA.ldC (X : Stand p l e R s m args below meth c T locs cells slots) (hx : p.tables.exec = Jvm.exec) (hZ : Z.Warmed39 s.vm) (eT : T.heap = h) (F : OwnA Z h a .char n f) (h1 : 0 ≤ j.toInt) (h2 : j.toInt < n.toInt) (hg : g.method = m) (hs : g.stack = .int j :: .ref a :: rest) (hd : decode c.code g.pc = .ok (.caload, 1))
    (hr : Steps p.tables e below (T.setTop { g with pc := g.pc + 1, stack := f j.toInt :: rest }) target) : Steps p.tables e below (T.setTop g) target := by
  obtain ⟨cl, A, r1, r2⟩ := F
  subst eT
  exact X.caload hx A.1 (State.isArrayOf_alike hZ.alike A.2.1) A.2.2 (own_in r1 h1 h2) (r2 _ h1 h2) hg hs hd target hr
theorem OwnA.ldB (X : Stand p l e R s m args below meth c T locs cells slots) (hx : p.tables.exec = Jvm.exec) (hZ : Z.Warmed39 s.vm) (eT : T.heap = h) (F : OwnA Z h a .byte n f) (h1 : 0 ≤ j.toInt) (h2 : j.toInt < n.toInt) (hg : g.method = m) (hs : g.stack = .int j :: .ref a :: rest) (hd : decode c.code g.pc = .ok (.baload, 1))
    (hr : Steps p.tables e below (T.setTop { g with pc := g.pc + 1, stack := f j.toInt :: rest }) target) : Steps p.tables e below (T.setTop g) target := by
  obtain ⟨cl, A, r1, r2⟩ := F
  subst eT
  exact X.baloadBytes hx A.1 (State.isArrayOf_alike hZ.alike A.2.1) A.2.2 (own_in r1 h1 h2) (r2 _ h1 h2) hg hs hd target hr
theorem OwnA.ldZ (X : Stand p l e R s m args below meth c T locs cells slots) (hx : p.tables.exec = Jvm.exec) (hZ : Z.Warmed39 s.vm) (eT : T.heap = h) (F : OwnA Z h a .boolean n f) (h1 : 0 ≤ j.toInt) (h2 : j.toInt < n.toInt) (hg : g.method = m) (hs : g.stack = .int j :: .ref a :: rest) (hd : decode c.code g.pc = .ok (.baload, 1))
    (hr : Steps p.tables e below (T.setTop { g with pc := g.pc + 1, stack := f j.toInt :: rest }) target) : Steps p.tables e below (T.setTop g) target := by
  obtain ⟨cl, A, r1, r2⟩ := F
  subst eT
  exact X.baloadBooleans hx A.1 (State.isArrayOf_alike hZ.alike A.2.1) A.2.2 (own_in r1 h1 h2) (r2 _ h1 h2) hg hs hd target hr
theorem own_frs {k : Nat} {sl : Nat} (N : Fr k locs) (q : k ≤ a) : Fr k (locs ++ [⟨a, sl⟩]) := N.app fun y hy => by cases List.mem_singleton.mp hy; exact q
theorem OwnA.stI {n0 : Nat} {x : Int32} (X : Stand p l e R s m args below meth c T locs cells slots) (hx : p.tables.exec = Jvm.exec) (hZ : Z.Warmed39 s.vm) (eT : T.heap = h) (N : Fr n0 locs) (q : n0 ≤ a) (F : OwnA Z h a .int n f) (h1 : 0 ≤ j.toInt) (h2 : j.toInt < n.toInt) (hg : g.method = m) (hs : g.stack = .int x :: .int j :: .ref a :: rest) (hd : decode c.code g.pc = .ok (.iastore, 1)) :
    ∃ T' h' L', Stand p l e R s m args below meth c T' L' cells slots ∧ T'.heap = h' ∧ Fr n0 L' ∧ Keep h h' [a] ∧ OwnA Z h' a .int n (ownUpd f j.toInt (.int x)) ∧ ∀ target, Steps p.tables e below (T'.setTop { g with pc := g.pc + 1, stack := rest }) target → Steps p.tables e below (T.setTop g) target := by
  obtain ⟨cl, A, r1, r2⟩ := id F
  obtain ⟨T', h', X', e', W, st⟩ := RoadKit.stI X hx hZ eT A (own_in r1 h1 h2) hg hs hd
  exact ⟨T', h', _, X', e', own_frs N q, Keep.of_wr W, F.set h1 h2 W, st⟩
theorem OwnA.stJ {n0 : Nat} {x : Int64} (X : Stand p l e R s m args below meth c T locs cells slots) (hx : p.tables.exec = Jvm.exec) (hZ : Z.Warmed39 s.vm) (eT : T.heap = h) (N : Fr n0 locs) (q : n0 ≤ a) (F : OwnA Z h a .long n f) (h1 : 0 ≤ j.toInt) (h2 : j.toInt < n.toInt) (hg : g.method = m) (hs : g.stack = .long x :: .int j :: .ref a :: rest) (hd : decode c.code g.pc = .ok (.lastore, 1)) :
    ∃ T' h' L', Stand p l e R s m args below meth c T' L' cells slots ∧ T'.heap = h' ∧ Fr n0 L' ∧ Keep h h' [a] ∧ OwnA Z h' a .long n (ownUpd f j.toInt (.long x)) ∧ ∀ target, Steps p.tables e below (T'.setTop { g with pc := g.pc + 1, stack := rest }) target → Steps p.tables e below (T.setTop g) target := by
  obtain ⟨cl, A, r1, r2⟩ := id F
  obtain ⟨T', h', X', e', W, st⟩ := RoadKit.stJ X hx hZ eT A (own_in r1 h1 h2) hg hs hd
  exact ⟨T', h', _, X', e', own_frs N q, Keep.of_wr W, F.set h1 h2 W, st⟩
theorem OwnA.stC {n0 : Nat} {x : Int32} (X : Stand p l e R s m args below meth c T locs cells slots) (hx : p.tables.exec = Jvm.exec) (hZ : Z.Warmed39 s.vm) (eT : T.heap = h) (N : Fr n0 locs) (q : n0 ≤ a) (F : OwnA Z h a .char n f) (h1 : 0 ≤ j.toInt) (h2 : j.toInt < n.toInt) (hg : g.method = m) (hs : g.stack = .int x :: .int j :: .ref a :: rest) (hd : decode c.code g.pc = .ok (.castore, 1)) :
    ∃ T' h' L', Stand p l e R s m args below meth c T' L' cells slots ∧ T'.heap = h' ∧ Fr n0 L' ∧ Keep h h' [a] ∧ OwnA Z h' a .char n (ownUpd f j.toInt (.int (nar .char x))) ∧ ∀ target, Steps p.tables e below (T'.setTop { g with pc := g.pc + 1, stack := rest }) target → Steps p.tables e below (T.setTop g) target := by
  obtain ⟨cl, A, r1, r2⟩ := id F
  obtain ⟨T', h', X', e', W, st⟩ := RoadKit.stC X hx hZ eT A (own_in r1 h1 h2) hg hs hd
  exact ⟨T', h', _, X', e', own_frs N q, Keep.of_wr W, F.set h1 h2 W, st⟩
theorem OwnA.stB {n0 : Nat} {x : Int32} (X : Stand p l e R s m args below meth c T locs cells slots) (hx : p.tables.exec = Jvm.exec) (hZ : Z.Warmed39 s.vm) (eT : T.heap = h) (N : Fr n0 locs) (q : n0 ≤ a) (F : OwnA Z h a .byte n f) (h1 : 0 ≤ j.toInt) (h2 : j.toInt < n.toInt) (hg : g.method = m) (hs : g.stack = .int x :: .int j :: .ref a :: rest) (hd : decode c.code g.pc = .ok (.bastore, 1)) :
    ∃ T' h' L', Stand p l e R s m args below meth c T' L' cells slots ∧ T'.heap = h' ∧ Fr n0 L' ∧ Keep h h' [a] ∧ OwnA Z h' a .byte n (ownUpd f j.toInt (.int (nar .byte x))) ∧ ∀ target, Steps p.tables e below (T'.setTop { g with pc := g.pc + 1, stack := rest }) target → Steps p.tables e below (T.setTop g) target := by
  obtain ⟨cl, A, r1, r2⟩ := id F
  obtain ⟨T', h', X', e', W, st⟩ := RoadKit.stB X hx hZ eT A (own_in r1 h1 h2) hg hs hd
  exact ⟨T', h', _, X', e', own_frs N q, Keep.of_wr W, F.set h1 h2 W, st⟩
theorem OwnA.stZ {n0 : Nat} {x : Int32} (X : Stand p l e R s m args below meth c T locs cells slots) (hx : p.tables.exec = Jvm.exec) (hZ : Z.Warmed39 s.vm) (eT : T.heap = h) (N : Fr n0 locs) (q : n0 ≤ a) (F : OwnA Z h a .boolean n f) (h1 : 0 ≤ j.toInt) (h2 : j.toInt < n.toInt) (hg : g.method = m) (hs : g.stack = .int x :: .int j :: .ref a :: rest) (hd : decode c.code g.pc = .ok (.bastore, 1)) :
    ∃ T' h' L', Stand p l e R s m args below meth c T' L' cells slots ∧ T'.heap = h' ∧ Fr n0 L' ∧ Keep h h' [a] ∧ OwnA Z h' a .boolean n (ownUpd f j.toInt (.int (nar .boolean x))) ∧ ∀ target, Steps p.tables e below (T'.setTop { g with pc := g.pc + 1, stack := rest }) target → Steps p.tables e below (T.setTop g) target := by
  obtain ⟨cl, A, r1, r2⟩ := id F
  obtain ⟨T', h', X', e', W, st⟩ := RoadKit.stZ X hx hZ eT A (own_in r1 h1 h2) hg hs hd
  exact ⟨T', h', _, X', e', own_frs N q, Keep.of_wr W, F.set h1 h2 W, st⟩
end OwnKit
theorem own_ofi {n : Int} (h1 : -2147483648 ≤ n) (h2 : n < 2147483648) : (Int32.ofInt n).toInt = n := by
  rw [Int32.toInt_ofInt, show Int32.size = 4294967296 from rfl, Int.bmod_eq_of_le (by omega) (by omega)]
theorem own_ofj {n : Int} (h1 : -9223372036854775808 ≤ n) (h2 : n < 9223372036854775808) : (Int64.ofInt n).toInt = n := by
  rw [Int64.toInt_ofInt, show Int64.size = 18446744073709551616 from rfl, Int.bmod_eq_of_le (by omega) (by omega)]
/-- an int between 0 and n is one of finitely many -/
theorem own_fin {x : Int32} {n : Nat} (h1 : 0 ≤ x.toInt) (h2 : x.toInt < n) : ∃ k : Fin n, x = Int32.ofInt (k.1 : Int) := by
  have h3 := x.toInt_lt
  refine ⟨⟨x.toInt.toNat, by omega⟩, Int32.toInt_inj.mp ?_⟩
  show _ = (Int32.ofInt ((x.toInt.toNat : Nat) : Int)).toInt
  rw [own_ofi (by omega) (by omega)]; omega
def own_mix (z : Int64) : Int64 :=
  ((((z ^^^ XT.ushrL z 30) * (-4658895280553007687 : Int64)) ^^^ XT.ushrL ((z ^^^ XT.ushrL z 30) * (-4658895280553007687 : Int64)) 27) * (-7723592293110705685 : Int64)) ^^^ XT.ushrL ((((z ^^^ XT.ushrL z 30) * (-4658895280553007687 : Int64)) ^^^ XT.ushrL ((z ^^^ XT.ushrL z 30) * (-4658895280553007687 : Int64)) 27) * (-7723592293110705685 : Int64)) 31
theorem own_xs (s : Nat) (hs : 1 ≤ s) (x y : BitVec 64) (h : x ^^^ (x >>> s) = y ^^^ (y >>> s)) : x = y := by
  have h1 : (x ^^^ y) = (x ^^^ y) >>> s := by
    rw [BitVec.ushiftRight_xor_distrib]
    have h2 : (x ^^^ (x >>> s)) ^^^ (y ^^^ (x >>> s)) = (y ^^^ (y >>> s)) ^^^ (y ^^^ (x >>> s)) := by rw [h]
    have e1 : (x ^^^ (x >>> s)) ^^^ (y ^^^ (x >>> s)) = x ^^^ y := by
      rw [BitVec.xor_comm y, ← BitVec.xor_assoc, BitVec.xor_assoc x, BitVec.xor_self, BitVec.xor_zero]
    have e2 : (y ^^^ (y >>> s)) ^^^ (y ^^^ (x >>> s)) = (x >>> s) ^^^ (y >>> s) := by
      rw [BitVec.xor_comm y (y >>> s), BitVec.xor_assoc, ← BitVec.xor_assoc y, BitVec.xor_self, BitVec.zero_xor, BitVec.xor_comm]
    rw [e1, e2] at h2; exact h2
  have h3 := congrArg BitVec.toNat h1
  rw [BitVec.toNat_ushiftRight, Nat.shiftRight_eq_div_pow] at h3
  have h4 : (x ^^^ y).toNat = 0 := by
    have h5 : (x ^^^ y).toNat / 2 ^ s ≤ (x ^^^ y).toNat / 2 := Nat.div_le_div_left (by have := Nat.pow_le_pow_right (n := 2) (by decide) hs; simpa using this) (by decide)
    omega
  have h6 : x ^^^ y = 0#64 := BitVec.eq_of_toNat_eq h4
  have h7 := congrArg (· ^^^ y) h6
  simp only [BitVec.xor_assoc, BitVec.xor_self, BitVec.xor_zero, BitVec.zero_xor] at h7
  exact h7
theorem own_x30 (x y : Int64) (h : x ^^^ XT.ushrL x 30 = y ^^^ XT.ushrL y 30) : x = y := Int64.toBitVec_inj.mp (own_xs 30 (by decide) _ _ (congrArg Int64.toBitVec h))
theorem own_x27 (x y : Int64) (h : x ^^^ XT.ushrL x 27 = y ^^^ XT.ushrL y 27) : x = y := Int64.toBitVec_inj.mp (own_xs 27 (by decide) _ _ (congrArg Int64.toBitVec h))
theorem own_x31 (x y : Int64) (h : x ^^^ XT.ushrL x 31 = y ^^^ XT.ushrL y 31) : x = y := Int64.toBitVec_inj.mp (own_xs 31 (by decide) _ _ (congrArg Int64.toBitVec h))
theorem own_mul (a b : Int64) (hab : a * b = 1) (x y : Int64) (h : x * a = y * a) : x = y := by
  have h1 := congrArg (· * b) h
  simp only [Int64.mul_assoc, hab, Int64.mul_one] at h1
  exact h1
theorem own_inj (x y : Int64) (h : own_mix x = own_mix y) : x = y := by
  unfold own_mix at h
  exact own_x30 _ _ (own_mul (-4658895280553007687) (-7575587736534282103) (by decide) _ _ (own_x27 _ _ (own_mul (-7723592293110705685) (3573116690164977347) (by decide) _ _ (own_x31 _ _ h))))

theorem d1_0 : decode prog_11_method_1_code 0 = .ok (.aload_n 0, 1) := by decide +kernel
theorem d1_1 : decode prog_11_method_1_code 1 = .ok (.invokespecial 1, 3) := by decide +kernel
theorem d1_4 : decode prog_11_method_1_code 4 = .ok (.aload_n 0, 1) := by decide +kernel
theorem d1_5 : decode prog_11_method_1_code 5 = .ok (.lload_n 1, 1) := by decide +kernel
theorem d1_6 : decode prog_11_method_1_code 6 = .ok (.putfield 7, 3) := by decide +kernel
theorem d1_9 : decode prog_11_method_1_code 9 = .ok (.return_, 1) := by decide +kernel
theorem pn_1 : plainFor (⟨"com/example/rankline/rankline/core/SeededRandom", "<init>", "(J)V"⟩ : MethodName) = true := plainFor_of_name (by first | (simp [plainName, overriddenIn]; done) | decide +kernel)
theorem pd_1 : parseMethodDescriptor "(J)V" = some ⟨[.long], none⟩ := by decide +kernel
theorem ef_1 (m : MethodId) (x0 : Addr) (x1 : Int64) : entryFrame m #[(.ref x0), (.long x1)] 3 = mkF m 0 #[.val (.ref x0), .val (.long x1), .second] [] := by first | (simp [entryFrame, mkF, argsToLocals, Value.category, maxLocals]; done) | rfl
def Q1 (Z : State) (a1 : Addr) (p1 : Int64)  (h0 : Heap) (n0 : Nat) (v : Option Value) (h : Heap) (L : List Loc) : Prop := v = none ∧ Fr n0 L ∧ Keep h0 h [a1] ∧ Fld Z h a1 "com/example/rankline/rankline/core/SeededRandom" "state" "J" (.long p1)
set_option maxRecDepth 65536 in
set_option maxHeartbeats 40000000 in
theorem rm1 (l : Launch) (Z : State) (a0 : Array Value) (hw : ∀ d ∈ tables_1, d.before a0 Z = true) (ws : List Jvm.Cond) (a1 : Addr) (p1 : Int64)  (h0 : Heap) (n0 : Nat) (Z0 : n0 ≤ h0.size) (g0 : n0 ≤ a1) (E0 : Exa Z h0 a1 "com/example/rankline/rankline/core/SeededRandom") (F0 : Fld Z h0 a1 "com/example/rankline/rankline/core/SeededRandom" "state" "J" (.long (0 : Int64))) :
    MetFree l (⟨"com/example/rankline/rankline/core/SeededRandom", "<init>", "(J)V"⟩ : MethodName) (head1 (Jvm.Cond.code (⟨"com/example/rankline/rankline/core/SeededRandom", "<init>", "(J)V"⟩ : MethodName) prog_11_method_1_code 3 none :: ws) ({ frames := 1, cells := 0, slots := 0, locals := 12 } : Room)) (fun a U => a = #[(.ref a1), (.long p1)] ∧ Z.Warmed39 U.vm ∧ U.heap = h0) (fun _ _ _ _ _ => True) (fun _ U o U' => ∃ v L, o = .returned v ∧ Q1 Z a1 p1  h0 n0 v U'.heap L ∧ FrameEnd U o U' L ({ frames := 1, cells := 0, slots := 0, locals := 12 } : Room).cells ({ frames := 1, cells := 0, slots := 0, locals := 12 } : Room).slots) := by
  refine MetFree.of_bodySF pn_1 hisR ?_
  intro p e s m args below meth c s₁ Bd hml0 hP hK
  obtain ⟨rfl, hZ, hh⟩ := hP
  have hx := Bd.exec
  have hby := Bd.bytes
  have hlk := BodyLoose.notSynchronized Bd
  have hml : c.maxLocals = 3 := hml0
  have hown : s.vm.findClass "com/example/rankline/rankline/core/SeededRandom" = some m.cls := findClass_of_methodNamed Bd.named
  have hnm := (name_of_methodNamed Bd.named Bd.method).1
  have X0 : Stand p l e ({ frames := 1, cells := 0, slots := 0, locals := 12 } : Room) s m #[(.ref a1), (.long p1)] below meth c s₁ [] 0 0 := Stand.of_body Bd
  have e0 : s₁.heap = h0 := by rw [← hh, Bd.state]; rfl
  have N0 := Fr.nil n0
  show OwnWp p e below s ({ frames := 1, cells := 0, slots := 0, locals := 12 } : Room).cells ({ frames := 1, cells := 0, slots := 0, locals := 12 } : Room).slots (Q1 Z a1 p1  h0 n0) (s₁.setTop (entryFrame m #[(.ref a1), (.long p1)] 3))
  refine OwnWp.cast (ef_1 m a1 p1) ?_
  show OwnWp p e below s _ _ _ (s₁.setTop (mkF m 0 #[.val (.ref a1), .val (.long p1), .second] []))
  have K0 := Keep.refl h0 [a1]
  refine OwnWp.step (U' := s₁.setTop (mkF m 1 #[.val (.ref a1), .val (.long p1), .second] [(.ref a1)])) (fun t k => ?_) ?_
  · show Steps p.tables e below (s₁.setTop (mkF m 0 #[.val (.ref a1), .val (.long p1), .second] [])) _
    refine XS.aloadN X0.here hx rfl (hb hby d1_0) rfl rfl ?_
    show Steps p.tables e below (s₁.setTop (mkF m 1 #[.val (.ref a1), .val (.long p1), .second] [(.ref a1)])) _
    exact k
  obtain ⟨T1, X1, e1, st1⟩ := initO X0 hx hZ hown (hw _ (List.mem_of_getElem? (i := 6) rfl)) (hw _ (List.mem_of_getElem? (i := 7) rfl)) (hw _ (List.mem_of_getElem? (i := 8) rfl)) e0 (g := (mkF m 1 #[.val (.ref a1), .val (.long p1), .second] [(.ref a1)])) rfl (by rw [hml]; rfl) rfl (hb hby d1_1) (by decide) (W := 0) (by show 2 * 0 + _ ≤ _; exact Nat.le_of_eq rfl) (by decide)
  refine OwnWp.step st1 ?_
  show OwnWp p e below s _ _ _ (T1.setTop (mkF m 4 #[.val (.ref a1), .val (.long p1), .second] []))
  refine OwnWp.step (U' := T1.setTop (mkF m 6 #[.val (.ref a1), .val (.long p1), .second] [(.long p1), (.ref a1)])) (fun t k => ?_) ?_
  · show Steps p.tables e below (T1.setTop (mkF m 4 #[.val (.ref a1), .val (.long p1), .second] [])) _
    refine XS.aloadN X1.here hx rfl (hb hby d1_4) rfl rfl ?_
    show Steps p.tables e below (T1.setTop (mkF m 5 #[.val (.ref a1), .val (.long p1), .second] [(.ref a1)])) _
    refine XT.lloadN X1.here hx rfl (hb hby d1_5) rfl ?_
    show Steps p.tables e below (T1.setTop (mkF m 6 #[.val (.ref a1), .val (.long p1), .second] [(.long p1), (.ref a1)])) _
    exact k
  obtain ⟨T2, h2, X2, e2, W2, st2⟩ := putF X1 hx hZ hown (host := "") (Or.inl (hw _ (List.mem_of_getElem? (i := 9) rfl))) Via.refl e1 F0 E0 (Or.inl (hw _ (List.mem_of_getElem? (i := 10) rfl))) (hw _ (List.mem_of_getElem? (i := 1) rfl)) (ty := .long) (by decide) rfl rfl (g := (mkF m 6 #[.val (.ref a1), .val (.long p1), .second] [(.long p1), (.ref a1)])) rfl rfl (hb hby d1_6)
  have N2 := own_frs (sl := Jvm.RoadKit.slotOf Z "com/example/rankline/rankline/core/SeededRandom" "state" "J") N0 g0
  have Z2 : n0 ≤ h2.size := by rw [W2.size]; exact Z0
  refine OwnWp.step st2 ?_
  have f3 := Exa.wr W2 E0
  have f4 := Fld.same W2 F0
  have K5 := Keep.wr K0 W2 (Or.inl (List.mem_of_getElem? (i := 0) rfl))
  show OwnWp p e below s _ _ _ (T2.setTop (mkF m 9 #[.val (.ref a1), .val (.long p1), .second] []))
  refine OwnWp.retV X2 hx hlk Bd.returns (hb hby d1_9) (by decide) (by decide) ?_
  rw [e2]
  exact ⟨rfl, N2, K5, f4⟩
theorem d3_0 : decode prog_11_method_4_code 0 = .ok (.aload_n 0, 1) := by decide +kernel
theorem d3_1 : decode prog_11_method_4_code 1 = .ok (.dup, 1) := by decide +kernel
theorem d3_2 : decode prog_11_method_4_code 2 = .ok (.getfield 7, 3) := by decide +kernel
theorem d3_5 : decode prog_11_method_4_code 5 = .ok (.ldc2_w 42, 3) := by decide +kernel
theorem d3_8 : decode prog_11_method_4_code 8 = .ok (.ladd, 1) := by decide +kernel
theorem d3_9 : decode prog_11_method_4_code 9 = .ok (.putfield 7, 3) := by decide +kernel
theorem d3_12 : decode prog_11_method_4_code 12 = .ok (.aload_n 0, 1) := by decide +kernel
theorem d3_13 : decode prog_11_method_4_code 13 = .ok (.getfield 7, 3) := by decide +kernel
theorem d3_16 : decode prog_11_method_4_code 16 = .ok (.lstore_n 1, 1) := by decide +kernel
theorem d3_17 : decode prog_11_method_4_code 17 = .ok (.lload_n 1, 1) := by decide +kernel
theorem d3_18 : decode prog_11_method_4_code 18 = .ok (.lload_n 1, 1) := by decide +kernel
theorem d3_19 : decode prog_11_method_4_code 19 = .ok (.bipush 30, 2) := by decide +kernel
theorem d3_21 : decode prog_11_method_4_code 21 = .ok (.lushr, 1) := by decide +kernel
theorem d3_22 : decode prog_11_method_4_code 22 = .ok (.lxor, 1) := by decide +kernel
theorem d3_23 : decode prog_11_method_4_code 23 = .ok (.ldc2_w 44, 3) := by decide +kernel
theorem d3_26 : decode prog_11_method_4_code 26 = .ok (.lmul, 1) := by decide +kernel
theorem d3_27 : decode prog_11_method_4_code 27 = .ok (.lstore_n 1, 1) := by decide +kernel
theorem d3_28 : decode prog_11_method_4_code 28 = .ok (.lload_n 1, 1) := by decide +kernel
theorem d3_29 : decode prog_11_method_4_code 29 = .ok (.lload_n 1, 1) := by decide +kernel
theorem d3_30 : decode prog_11_method_4_code 30 = .ok (.bipush 27, 2) := by decide +kernel
theorem d3_32 : decode prog_11_method_4_code 32 = .ok (.lushr, 1) := by decide +kernel
theorem d3_33 : decode prog_11_method_4_code 33 = .ok (.lxor, 1) := by decide +kernel
theorem d3_34 : decode prog_11_method_4_code 34 = .ok (.ldc2_w 46, 3) := by decide +kernel
theorem d3_37 : decode prog_11_method_4_code 37 = .ok (.lmul, 1) := by decide +kernel
theorem d3_38 : decode prog_11_method_4_code 38 = .ok (.lstore_n 1, 1) := by decide +kernel
theorem d3_39 : decode prog_11_method_4_code 39 = .ok (.lload_n 1, 1) := by decide +kernel
theorem d3_40 : decode prog_11_method_4_code 40 = .ok (.lload_n 1, 1) := by decide +kernel
theorem d3_41 : decode prog_11_method_4_code 41 = .ok (.bipush 31, 2) := by decide +kernel
theorem d3_43 : decode prog_11_method_4_code 43 = .ok (.lushr, 1) := by decide +kernel
theorem d3_44 : decode prog_11_method_4_code 44 = .ok (.lxor, 1) := by decide +kernel
theorem d3_45 : decode prog_11_method_4_code 45 = .ok (.lreturn, 1) := by decide +kernel
theorem pn_3 : plainFor (⟨"com/example/rankline/rankline/core/SeededRandom", "nextLong", "()J"⟩ : MethodName) = true := plainFor_of_name (by first | (simp [plainName, overriddenIn]; done) | decide +kernel)
theorem pd_3 : parseMethodDescriptor "()J" = some ⟨[], some .long⟩ := by decide +kernel
theorem ef_3 (m : MethodId) (x0 : Addr) : entryFrame m #[(.ref x0)] 3 = mkF m 0 #[.val (.ref x0), .unset, .unset] [] := by first | (simp [entryFrame, mkF, argsToLocals, Value.category, maxLocals]; done) | rfl
def Q3 (Z : State) (a1 : Addr) (p1 : Int64) (h0 : Heap) (n0 : Nat) (v : Option Value) (h : Heap) (L : List Loc) : Prop := v = some (.long (own_mix (p1 + ((-7046029254386353131) : Int64)))) ∧ Fr n0 L ∧ Keep h0 h [a1] ∧ Fld Z h a1 "com/example/rankline/rankline/core/SeededRandom" "state" "J" (.long (p1 + ((-7046029254386353131) : Int64)))
set_option maxRecDepth 65536 in
set_option maxHeartbeats 40000000 in
theorem rm3 (l : Launch) (Z : State) (a0 : Array Value) (hw : ∀ d ∈ tables_1, d.before a0 Z = true) (ws : List Jvm.Cond) (a1 : Addr) (p1 : Int64) (h0 : Heap) (n0 : Nat) (Z0 : n0 ≤ h0.size) (g0 : n0 ≤ a1) (E0 : Exa Z h0 a1 "com/example/rankline/rankline/core/SeededRandom") (F0 : Fld Z h0 a1 "com/example/rankline/rankline/core/SeededRandom" "state" "J" (.long p1)) :
    MetFree l (⟨"com/example/rankline/rankline/core/SeededRandom", "nextLong", "()J"⟩ : MethodName) (head1 (Jvm.Cond.code (⟨"com/example/rankline/rankline/core/SeededRandom", "nextLong", "()J"⟩ : MethodName) prog_11_method_4_code 3 (some .long) :: ws) ({ frames := 0, cells := 0, slots := 0, locals := 0 } : Room)) (fun a U => a = #[(.ref a1)] ∧ Z.Warmed39 U.vm ∧ U.heap = h0) (fun _ _ _ _ _ => True) (fun _ U o U' => ∃ v L, o = .returned v ∧ Q3 Z a1 p1 h0 n0 v U'.heap L ∧ FrameEnd U o U' L ({ frames := 0, cells := 0, slots := 0, locals := 0 } : Room).cells ({ frames := 0, cells := 0, slots := 0, locals := 0 } : Room).slots) := by
  refine MetFree.of_bodySF pn_3 hisR ?_
  intro p e s m args below meth c s₁ Bd hml0 hP hK
  obtain ⟨rfl, hZ, hh⟩ := hP
  have hx := Bd.exec
  have hby := Bd.bytes
  have hlk := BodyLoose.notSynchronized Bd
  have hml : c.maxLocals = 3 := hml0
  have hown : s.vm.findClass "com/example/rankline/rankline/core/SeededRandom" = some m.cls := findClass_of_methodNamed Bd.named
  have hnm := (name_of_methodNamed Bd.named Bd.method).1
  have X0 : Stand p l e ({ frames := 0, cells := 0, slots := 0, locals := 0 } : Room) s m #[(.ref a1)] below meth c s₁ [] 0 0 := Stand.of_body Bd
  have e0 : s₁.heap = h0 := by rw [← hh, Bd.state]; rfl
  have N0 := Fr.nil n0
  show OwnWp p e below s ({ frames := 0, cells := 0, slots := 0, locals := 0 } : Room).cells ({ frames := 0, cells := 0, slots := 0, locals := 0 } : Room).slots (Q3 Z a1 p1 h0 n0) (s₁.setTop (entryFrame m #[(.ref a1)] 3))
  refine OwnWp.cast (ef_3 m a1) ?_
  show OwnWp p e below s _ _ _ (s₁.setTop (mkF m 0 #[.val (.ref a1), .unset, .unset] []))
  have K0 := Keep.refl h0 [a1]
  refine OwnWp.step (U' := s₁.setTop (mkF m 2 #[.val (.ref a1), .unset, .unset] [(.ref a1), (.ref a1)])) (fun t k => ?_) ?_
  · show Steps p.tables e below (s₁.setTop (mkF m 0 #[.val (.ref a1), .unset, .unset] [])) _
    refine XS.aloadN X0.here hx rfl (hb hby d3_0) rfl rfl ?_
    show Steps p.tables e below (s₁.setTop (mkF m 1 #[.val (.ref a1), .unset, .unset] [(.ref a1)])) _
    refine XS.dup X0.here hx rfl (hb hby d3_1) rfl rfl ?_
    show Steps p.tables e below (s₁.setTop (mkF m 2 #[.val (.ref a1), .unset, .unset] [(.ref a1), (.ref a1)])) _
    exact k
  obtain ⟨T6, X6, e6, st6⟩ := getF X0 hx hZ hown (host := "") (Or.inl (hw _ (List.mem_of_getElem? (i := 9) rfl))) Via.refl e0 F0 (g := (mkF m 2 #[.val (.ref a1), .unset, .unset] [(.ref a1), (.ref a1)])) rfl rfl (hb hby d3_2)
  refine OwnWp.step st6 ?_
  show OwnWp p e below s _ _ _ (T6.setTop (mkF m 5 #[.val (.ref a1), .unset, .unset] [(.long p1), (.ref a1)]))
  refine OwnWp.step (U' := T6.setTop (mkF m 9 #[.val (.ref a1), .unset, .unset] [(.long (p1 + ((-7046029254386353131) : Int64))), (.ref a1)])) (fun t k => ?_) ?_
  · show Steps p.tables e below (T6.setTop (mkF m 5 #[.val (.ref a1), .unset, .unset] [(.long p1), (.ref a1)])) _
    refine X6.ldc2J hx hown (mvT hZ (hw _ (List.mem_of_getElem? (i := 16) rfl))) rfl (hb hby d3_5) ?_
    show Steps p.tables e below (T6.setTop (mkF m 8 #[.val (.ref a1), .unset, .unset] [(.long ((-7046029254386353131) : Int64)), (.long p1), (.ref a1)])) _
    refine XT.ladd X6.here hx rfl (hb hby d3_8) rfl ?_
    show Steps p.tables e below (T6.setTop (mkF m 9 #[.val (.ref a1), .unset, .unset] [(.long (p1 + ((-7046029254386353131) : Int64))), (.ref a1)])) _
    exact k
  obtain ⟨T7, h7, X7, e7, W7, st7⟩ := putF X6 hx hZ hown (host := "") (Or.inl (hw _ (List.mem_of_getElem? (i := 9) rfl))) Via.refl e6 F0 E0 (Or.inl (hw _ (List.mem_of_getElem? (i := 10) rfl))) (hw _ (List.mem_of_getElem? (i := 1) rfl)) (ty := .long) (by decide) rfl rfl (g := (mkF m 9 #[.val (.ref a1), .unset, .unset] [(.long (p1 + ((-7046029254386353131) : Int64))), (.ref a1)])) rfl rfl (hb hby d3_9)
  have N7 := own_frs (sl := Jvm.RoadKit.slotOf Z "com/example/rankline/rankline/core/SeededRandom" "state" "J") N0 g0
  have Z7 : n0 ≤ h7.size := by rw [W7.size]; exact Z0
  refine OwnWp.step st7 ?_
  have f8 := Exa.wr W7 E0
  have f9 := Fld.same W7 F0
  have K10 := Keep.wr K0 W7 (Or.inl (List.mem_of_getElem? (i := 0) rfl))
  show OwnWp p e below s _ _ _ (T7.setTop (mkF m 12 #[.val (.ref a1), .unset, .unset] []))
  refine OwnWp.step (U' := T7.setTop (mkF m 13 #[.val (.ref a1), .unset, .unset] [(.ref a1)])) (fun t k => ?_) ?_
  · show Steps p.tables e below (T7.setTop (mkF m 12 #[.val (.ref a1), .unset, .unset] [])) _
    refine XS.aloadN X7.here hx rfl (hb hby d3_12) rfl rfl ?_
    show Steps p.tables e below (T7.setTop (mkF m 13 #[.val (.ref a1), .unset, .unset] [(.ref a1)])) _
    exact k
  obtain ⟨T11, X11, e11, st11⟩ := getF X7 hx hZ hown (host := "") (Or.inl (hw _ (List.mem_of_getElem? (i := 9) rfl))) Via.refl e7 f9 (g := (mkF m 13 #[.val (.ref a1), .unset, .unset] [(.ref a1)])) rfl rfl (hb hby d3_13)
  refine OwnWp.step st11 ?_
  show OwnWp p e below s _ _ _ (T11.setTop (mkF m 16 #[.val (.ref a1), .unset, .unset] [(.long (p1 + ((-7046029254386353131) : Int64)))]))
  obtain ⟨w1, qw1⟩ : ∃ z : Int64, z = (p1 + ((-7046029254386353131) : Int64)) := ⟨_, rfl⟩
  refine OwnWp.step (U' := T11.setTop (mkF m 17 #[.val (.ref a1), .val (.long w1), .second] [])) (fun t k => ?_) ?_
  · show Steps p.tables e below (T11.setTop (mkF m 16 #[.val (.ref a1), .unset, .unset] [(.long (p1 + ((-7046029254386353131) : Int64)))])) _
    refine XT.lstoreN X11.here hx rfl (hb hby d3_16) rfl (l' := #[.val (.ref a1), .val (.long (p1 + ((-7046029254386353131) : Int64))), .second]) rfl ?_
    show Steps p.tables e below (T11.setTop (mkF m 17 #[.val (.ref a1), .val (.long (p1 + ((-7046029254386353131) : Int64))), .second] [])) _
    rw [qw1] at k
    exact k
  obtain ⟨w2, qw2⟩ : ∃ z : Int64, z = ((w1 ^^^ (XT.ushrL w1 (30 : Int32))) * ((-4658895280553007687) : Int64)) := ⟨_, rfl⟩
  refine OwnWp.step (U' := T11.setTop (mkF m 28 #[.val (.ref a1), .val (.long w2), .second] [])) (fun t k => ?_) ?_
  · show Steps p.tables e below (T11.setTop (mkF m 17 #[.val (.ref a1), .val (.long w1), .second] [])) _
    refine XT.lloadN X11.here hx rfl (hb hby d3_17) rfl ?_
    show Steps p.tables e below (T11.setTop (mkF m 18 #[.val (.ref a1), .val (.long w1), .second] [(.long w1)])) _
    refine XT.lloadN X11.here hx rfl (hb hby d3_18) rfl ?_
    show Steps p.tables e below (T11.setTop (mkF m 19 #[.val (.ref a1), .val (.long w1), .second] [(.long w1), (.long w1)])) _
    refine XT.bipushV X11.here hx rfl (30 : Int32) (hb hby d3_19) rfl ?_
    show Steps p.tables e below (T11.setTop (mkF m 21 #[.val (.ref a1), .val (.long w1), .second] [(.int (30 : Int32)), (.long w1), (.long w1)])) _
    refine XT.lushr X11.here hx rfl (hb hby d3_21) rfl ?_
    show Steps p.tables e below (T11.setTop (mkF m 22 #[.val (.ref a1), .val (.long w1), .second] [(.long (XT.ushrL w1 (30 : Int32))), (.long w1)])) _
    refine XT.lxor X11.here hx rfl (hb hby d3_22) rfl ?_
    show Steps p.tables e below (T11.setTop (mkF m 23 #[.val (.ref a1), .val (.long w1), .second] [(.long (w1 ^^^ (XT.ushrL w1 (30 : Int32))))])) _
    refine X11.ldc2J hx hown (mvT hZ (hw _ (List.mem_of_getElem? (i := 17) rfl))) rfl (hb hby d3_23) ?_
    show Steps p.tables e below (T11.setTop (mkF m 26 #[.val (.ref a1), .val (.long w1), .second] [(.long ((-4658895280553007687) : Int64)), (.long (w1 ^^^ (XT.ushrL w1 (30 : Int32))))])) _
    refine XT.lmul X11.here hx rfl (hb hby d3_26) rfl ?_
    show Steps p.tables e below (T11.setTop (mkF m 27 #[.val (.ref a1), .val (.long w1), .second] [(.long ((w1 ^^^ (XT.ushrL w1 (30 : Int32))) * ((-4658895280553007687) : Int64)))])) _
    refine XT.lstoreN X11.here hx rfl (hb hby d3_27) rfl (l' := #[.val (.ref a1), .val (.long ((w1 ^^^ (XT.ushrL w1 (30 : Int32))) * ((-4658895280553007687) : Int64))), .second]) rfl ?_
    show Steps p.tables e below (T11.setTop (mkF m 28 #[.val (.ref a1), .val (.long ((w1 ^^^ (XT.ushrL w1 (30 : Int32))) * ((-4658895280553007687) : Int64))), .second] [])) _
    rw [qw2] at k
    exact k
  obtain ⟨w3, qw3⟩ : ∃ z : Int64, z = ((w2 ^^^ (XT.ushrL w2 (27 : Int32))) * ((-7723592293110705685) : Int64)) := ⟨_, rfl⟩
  refine OwnWp.step (U' := T11.setTop (mkF m 39 #[.val (.ref a1), .val (.long w3), .second] [])) (fun t k => ?_) ?_
  · show Steps p.tables e below (T11.setTop (mkF m 28 #[.val (.ref a1), .val (.long w2), .second] [])) _
    refine XT.lloadN X11.here hx rfl (hb hby d3_28) rfl ?_
    show Steps p.tables e below (T11.setTop (mkF m 29 #[.val (.ref a1), .val (.long w2), .second] [(.long w2)])) _
    refine XT.lloadN X11.here hx rfl (hb hby d3_29) rfl ?_
    show Steps p.tables e below (T11.setTop (mkF m 30 #[.val (.ref a1), .val (.long w2), .second] [(.long w2), (.long w2)])) _
    refine XT.bipushV X11.here hx rfl (27 : Int32) (hb hby d3_30) rfl ?_
    show Steps p.tables e below (T11.setTop (mkF m 32 #[.val (.ref a1), .val (.long w2), .second] [(.int (27 : Int32)), (.long w2), (.long w2)])) _
    refine XT.lushr X11.here hx rfl (hb hby d3_32) rfl ?_
    show Steps p.tables e below (T11.setTop (mkF m 33 #[.val (.ref a1), .val (.long w2), .second] [(.long (XT.ushrL w2 (27 : Int32))), (.long w2)])) _
    refine XT.lxor X11.here hx rfl (hb hby d3_33) rfl ?_
    show Steps p.tables e below (T11.setTop (mkF m 34 #[.val (.ref a1), .val (.long w2), .second] [(.long (w2 ^^^ (XT.ushrL w2 (27 : Int32))))])) _
    refine X11.ldc2J hx hown (mvT hZ (hw _ (List.mem_of_getElem? (i := 18) rfl))) rfl (hb hby d3_34) ?_
    show Steps p.tables e below (T11.setTop (mkF m 37 #[.val (.ref a1), .val (.long w2), .second] [(.long ((-7723592293110705685) : Int64)), (.long (w2 ^^^ (XT.ushrL w2 (27 : Int32))))])) _
    refine XT.lmul X11.here hx rfl (hb hby d3_37) rfl ?_
    show Steps p.tables e below (T11.setTop (mkF m 38 #[.val (.ref a1), .val (.long w2), .second] [(.long ((w2 ^^^ (XT.ushrL w2 (27 : Int32))) * ((-7723592293110705685) : Int64)))])) _
    refine XT.lstoreN X11.here hx rfl (hb hby d3_38) rfl (l' := #[.val (.ref a1), .val (.long ((w2 ^^^ (XT.ushrL w2 (27 : Int32))) * ((-7723592293110705685) : Int64))), .second]) rfl ?_
    show Steps p.tables e below (T11.setTop (mkF m 39 #[.val (.ref a1), .val (.long ((w2 ^^^ (XT.ushrL w2 (27 : Int32))) * ((-7723592293110705685) : Int64))), .second] [])) _
    rw [qw3] at k
    exact k
  refine OwnWp.step (U' := T11.setTop (mkF m 45 #[.val (.ref a1), .val (.long w3), .second] [(.long (w3 ^^^ (XT.ushrL w3 (31 : Int32))))])) (fun t k => ?_) ?_
  · show Steps p.tables e below (T11.setTop (mkF m 39 #[.val (.ref a1), .val (.long w3), .second] [])) _
    refine XT.lloadN X11.here hx rfl (hb hby d3_39) rfl ?_
    show Steps p.tables e below (T11.setTop (mkF m 40 #[.val (.ref a1), .val (.long w3), .second] [(.long w3)])) _
    refine XT.lloadN X11.here hx rfl (hb hby d3_40) rfl ?_
    show Steps p.tables e below (T11.setTop (mkF m 41 #[.val (.ref a1), .val (.long w3), .second] [(.long w3), (.long w3)])) _
    refine XT.bipushV X11.here hx rfl (31 : Int32) (hb hby d3_41) rfl ?_
    show Steps p.tables e below (T11.setTop (mkF m 43 #[.val (.ref a1), .val (.long w3), .second] [(.int (31 : Int32)), (.long w3), (.long w3)])) _
    refine XT.lushr X11.here hx rfl (hb hby d3_43) rfl ?_
    show Steps p.tables e below (T11.setTop (mkF m 44 #[.val (.ref a1), .val (.long w3), .second] [(.long (XT.ushrL w3 (31 : Int32))), (.long w3)])) _
    refine XT.lxor X11.here hx rfl (hb hby d3_44) rfl ?_
    show Steps p.tables e below (T11.setTop (mkF m 45 #[.val (.ref a1), .val (.long w3), .second] [(.long (w3 ^^^ (XT.ushrL w3 (31 : Int32))))])) _
    exact k
  refine OwnWp.retJ X11 hx hlk Bd.returns (hb hby d3_45) (by decide) (by decide) ?_
  rw [e11]
  refine ⟨?_, N7, K10, f9⟩
  subst qw3
  subst qw2
  subst qw1
  rfl
theorem pn_0 : plainFor (⟨"com/example/rankline/rankline/core/SeededRandomNextLongPinLaw", "law", "(JJ)Z"⟩ : MethodName) = true := plainFor_of_name (by first | (simp [plainName, overriddenIn]; done) | decide +kernel)
theorem pd_0 : parseMethodDescriptor "(JJ)Z" = some ⟨[.long, .long], some .boolean⟩ := by decide +kernel
theorem ef_0 (m : MethodId) (x0 : Int64) (x1 : Int64) : entryFrame m #[(.long x0), (.long x1)] maxLocals = mkF m 0 #[.val (.long x0), .second, .val (.long x1), .second, .unset, .unset, .unset, .unset, .unset, .unset, .unset, .unset, .unset, .unset, .unset, .unset, .unset, .unset, .unset, .unset, .unset] [] := by first | (simp [entryFrame, mkF, argsToLocals, Value.category, maxLocals]; done) | rfl
theorem own_law (p1 : Int64) (p2 : Int64) (w1 : Int64) (qw1 : w1 = (own_mix (p1 + ((-7046029254386353131) : Int64)))) (w2 : Int64) (qw2 : w2 = (own_mix ((p1 + ((-7046029254386353131) : Int64)) + ((-7046029254386353131) : Int64)))) (w3 : Int64) (qw3 : w3 = (own_mix ((p1 + ((-7046029254386353131) : Int64)) + ((-7046029254386353131) : Int64)))) (w4 : Int64) (qw4 : w4 = (own_mix (p2 + ((-7046029254386353131) : Int64)))) (w5 : Int64) (qw5 : w5 = (own_mix ((0 : Int64) + ((-7046029254386353131) : Int64)))) (w6 : Int32) (qw6 : w6 = (if w2 = w3 then (1 : Int32) else (0 : Int32))) (w7 : Int32) (qw7 : w7 = (if p1 = p2 then (1 : Int32) else (0 : Int32))) (w8 : Int32) (qw8 : w8 = (if w1 = w4 then (1 : Int32) else (0 : Int32))) (w9 : Int32) (qw9 : w9 = (if w7 = w8 then (1 : Int32) else (0 : Int32))) (w10 : Int32) (qw10 : w10 = (if w5 = ((-2152535657050944081) : Int64) then (1 : Int32) else (0 : Int32))) (w11 : Int32) (qw11 : w11 = (if w6 = (0 : Int32) then (0 : Int32) else (if w9 = (0 : Int32) then (0 : Int32) else (if w10 = (0 : Int32) then (0 : Int32) else (1 : Int32))))) : w11 = 1 := by
  have h6 : w6 = 1 := by rw [qw6, qw2, qw3, if_pos rfl]
  have h8 : w7 = w8 := by
    rw [qw7, qw8]
    by_cases q : p1 = p2
    · rw [if_pos q, if_pos (by rw [qw1, qw4, q])]
    · rw [if_neg q, if_neg]
      intro h
      rw [qw1, qw4] at h
      exact q ((Int64.add_left_inj _).mp (own_inj _ _ h))
  have h9 : w9 = 1 := by rw [qw9, if_pos h8]
  have h10 : w10 = 1 := by rw [qw10, qw5, if_pos (by decide +kernel)]
  rw [qw11, h6, h9, h10]; rfl

def Q0 (Z : State) (p1 : Int64) (p2 : Int64)  (h0 : Heap) (n0 : Nat) (v : Option Value) (h : Heap) (L : List Loc) : Prop := v = some (.int 1) ∧ Fr n0 L
set_option maxRecDepth 65536 in
set_option maxHeartbeats 40000000 in
theorem rm0 (l : Launch) (Z : State) (a0 : Array Value) (hw : ∀ d ∈ tables_1, d.before a0 Z = true) (ws : List Jvm.Cond) (p1 : Int64) (p2 : Int64)  (h0 : Heap) (n0 : Nat) (Z0 : n0 ≤ h0.size)  :
    MetFree l x (head1 (Jvm.Cond.code x code maxLocals ret :: ws) room_1) (fun a U => a = #[(.long p1), (.long p2)] ∧ Z.Warmed39 U.vm ∧ U.heap = h0) (fun _ _ _ _ _ => True) (fun _ U o U' => ∃ v L, o = .returned v ∧ Q0 Z p1 p2  h0 n0 v U'.heap L ∧ FrameEnd U o U' L room_1.cells room_1.slots) := by
  refine MetFree.of_bodySF pn_0 hisR ?_
  intro p e s m args below meth c s₁ Bd hml0 hP hK
  obtain ⟨rfl, hZ, hh⟩ := hP
  have hx := Bd.exec
  have hby := Bd.bytes
  have hlk := BodyLoose.notSynchronized Bd
  have hml : c.maxLocals = 21 := hml0
  have hown : s.vm.findClass "com/example/rankline/rankline/core/SeededRandomNextLongPinLaw" = some m.cls := findClass_of_methodNamed Bd.named
  have hnm := (name_of_methodNamed Bd.named Bd.method).1
  have X0 : Stand p l e room_1 s m #[(.long p1), (.long p2)] below meth c s₁ [] 0 0 := Stand.of_body Bd
  have e0 : s₁.heap = h0 := by rw [← hh, Bd.state]; rfl
  have N0 := Fr.nil n0
  show OwnWp p e below s room_1.cells room_1.slots (Q0 Z p1 p2  h0 n0) (s₁.setTop (entryFrame m #[(.long p1), (.long p2)] maxLocals))
  refine OwnWp.cast (ef_0 m p1 p2) ?_
  show OwnWp p e below s _ _ _ (s₁.setTop (mkF m 0 #[.val (.long p1), .second, .val (.long p2), .second, .unset, .unset, .unset, .unset, .unset, .unset, .unset, .unset, .unset, .unset, .unset, .unset, .unset, .unset, .unset, .unset, .unset] []))
  obtain ⟨T12, h12, X12, e12, E12, A12, D12, -, st12⟩ := newO X0 hx hZ hown (hw _ (List.mem_of_getElem? (i := 0) rfl)) (hw _ (List.mem_of_getElem? (i := 1) rfl)) (hw _ (List.mem_of_getElem? (i := 2) rfl)) e0 (g := (mkF m 0 #[.val (.long p1), .second, .val (.long p2), .second, .unset, .unset, .unset, .unset, .unset, .unset, .unset, .unset, .unset, .unset, .unset, .unset, .unset, .unset, .unset, .unset, .unset] [])) rfl (hb hby at_0) (by decide) (by decide)
  obtain ⟨ad12, ga12⟩ : ∃ z, z = h0.size := ⟨_, rfl⟩
  rw [← ga12] at A12 D12 st12
  refine OwnWp.step st12 ?_
  have Z12 : n0 ≤ h12.size := Nat.le_trans Z0 E12.1
  have b12 : n0 ≤ ad12 := Nat.le_trans Z0 (Nat.le_of_eq ga12.symm)
  have F13 : Fld Z h12 ad12 "com/example/rankline/rankline/core/SeededRandom" "state" "J" (.long (0 : Int64)) := D12 (Or.inl (hw _ (List.mem_of_getElem? (i := 10) rfl))) (ty := .long) (by decide)
  show OwnWp p e below s _ _ _ (T12.setTop (mkF m 3 #[.val (.long p1), .second, .val (.long p2), .second, .unset, .unset, .unset, .unset, .unset, .unset, .unset, .unset, .unset, .unset, .unset, .unset, .unset, .unset, .unset, .unset, .unset] [(.ref ad12)]))
  refine OwnWp.step (U' := T12.setTop (mkF m 5 #[.val (.long p1), .second, .val (.long p2), .second, .unset, .unset, .unset, .unset, .unset, .unset, .unset, .unset, .unset, .unset, .unset, .unset, .unset, .unset, .unset, .unset, .unset] [(.long p1), (.ref ad12), (.ref ad12)])) (fun t k => ?_) ?_
  · show Steps p.tables e below (T12.setTop (mkF m 3 #[.val (.long p1), .second, .val (.long p2), .second, .unset, .unset, .unset, .unset, .unset, .unset, .unset, .unset, .unset, .unset, .unset, .unset, .unset, .unset, .unset, .unset, .unset] [(.ref ad12)])) _
    refine XS.dup X12.here hx rfl (hb hby at_3) rfl rfl ?_
    show Steps p.tables e below (T12.setTop (mkF m 4 #[.val (.long p1), .second, .val (.long p2), .second, .unset, .unset, .unset, .unset, .unset, .unset, .unset, .unset, .unset, .unset, .unset, .unset, .unset, .unset, .unset, .unset, .unset] [(.ref ad12), (.ref ad12)])) _
    refine XT.lloadN X12.here hx rfl (hb hby at_4) rfl ?_
    show Steps p.tables e below (T12.setTop (mkF m 5 #[.val (.long p1), .second, .val (.long p2), .second, .unset, .unset, .unset, .unset, .unset, .unset, .unset, .unset, .unset, .unset, .unset, .unset, .unset, .unset, .unset, .unset, .unset] [(.long p1), (.ref ad12), (.ref ad12)])) _
    exact k
  obtain ⟨_, _, ⟨T14, L14, k14, n14⟩, -, X14, ⟨Lc14, hQ14, l14, y14, z14⟩, st14⟩ := X12.specialBack hx (y := (⟨"com/example/rankline/rankline/core/SeededRandom", "<init>", "(J)V"⟩ : MethodName)) rfl hown (mvT hZ (hw _ (List.mem_of_getElem? (i := 3) rfl))) (mvT hZ (hw _ (List.mem_of_getElem? (i := 4) rfl))) (mvT hZ (hw _ (List.mem_of_getElem? (i := 5) rfl))) (by decide) (backOf (W := 1) (rm1 l Z a0 hw [] ad12 p1 h12 n0 Z12 b12 A12 F13) hZ (hw _ (List.mem_of_getElem? (i := 5) rfl)) (hw _ (List.mem_of_getElem? (i := 2) rfl)) (by decide) (by decide)) (g := (mkF m 5 #[.val (.long p1), .second, .val (.long p2), .second, .unset, .unset, .unset, .unset, .unset, .unset, .unset, .unset, .unset, .unset, .unset, .unset, .unset, .unset, .unset, .unset, .unset] [(.long p1), (.ref ad12), (.ref ad12)])) rfl (by rw [hml]; rfl) (Steps.refl _) (a := ad12) (argsL := [(.long p1)]) (rest := [(.ref ad12)]) (lenOf pd_1 rfl) rfl (by show 2 * 0 + _ ≤ _; exact Nat.le_of_eq rfl) (hb hby at_5) (fun _ _ => ⟨rfl, e12, (by dsimp only [Pt.cells]; decide), (by dsimp only [Pt.slots]; decide)⟩)
  dsimp only [Pt.U, Pt.locs, Pt.cells, Pt.slots] at X14 l14 y14 z14 st14 hQ14
  subst l14 y14 z14
  obtain ⟨rfl, Nc14, Kc14, ga14⟩ := hQ14
  have N14 := Fr.app N0 Nc14
  refine OwnWp.go st14 ?_
  have Z14 : n0 ≤ T14.heap.size := Nat.le_trans Z12 Kc14.1
  have f15 := Exa.keep A12 Kc14
  show OwnWp p e below s _ _ _ (T14.setTop (mkF m 8 #[.val (.long p1), .second, .val (.long p2), .second, .unset, .unset, .unset, .unset, .unset, .unset, .unset, .unset, .unset, .unset, .unset, .unset, .unset, .unset, .unset, .unset, .unset] [(.ref ad12)]))
  refine OwnWp.step (U' := T14.setTop (mkF m 12 #[.val (.long p1), .second, .val (.long p2), .second, .val (.ref ad12), .unset, .unset, .unset, .unset, .unset, .unset, .unset, .unset, .unset, .unset, .unset, .unset, .unset, .unset, .unset, .unset] [(.ref ad12)])) (fun t k => ?_) ?_
  · show Steps p.tables e below (T14.setTop (mkF m 8 #[.val (.long p1), .second, .val (.long p2), .second, .unset, .unset, .unset, .unset, .unset, .unset, .unset, .unset, .unset, .unset, .unset, .unset, .unset, .unset, .unset, .unset, .unset] [(.ref ad12)])) _
    refine XS.astore X14.here hx rfl (hb hby at_8) rfl rfl (l' := #[.val (.long p1), .second, .val (.long p2), .second, .val (.ref ad12), .unset, .unset, .unset, .unset, .unset, .unset, .unset, .unset, .unset, .unset, .unset, .unset, .unset, .unset, .unset, .unset]) rfl ?_
    show Steps p.tables e below (T14.setTop (mkF m 10 #[.val (.long p1), .second, .val (.long p2), .second, .val (.ref ad12), .unset, .unset, .unset, .unset, .unset, .unset, .unset, .unset, .unset, .unset, .unset, .unset, .unset, .unset, .unset, .unset] [])) _
    refine XS.aload X14.here hx rfl (hb hby at_10) rfl rfl ?_
    show Steps p.tables e below (T14.setTop (mkF m 12 #[.val (.long p1), .second, .val (.long p2), .second, .val (.ref ad12), .unset, .unset, .unset, .unset, .unset, .unset, .unset, .unset, .unset, .unset, .unset, .unset, .unset, .unset, .unset, .unset] [(.ref ad12)])) _
    exact k
  obtain ⟨cq17, kq17, qa17, qb17, qc17⟩ := isOf hZ (rfl : T14.heap = T14.heap) f15
  obtain ⟨_, _, ⟨T17, L17, k17, n17⟩, -, X17, ⟨Lc17, hQ17, l17, y17, z17⟩, st17⟩ := X14.virtualBack hx (y := (⟨"com/example/rankline/rankline/core/SeededRandom", "nextLong", "()J"⟩ : MethodName)) (z := (⟨"com/example/rankline/rankline/core/SeededRandom", "nextLong", "()J"⟩ : MethodName)) hown (mvT hZ (hw _ (List.mem_of_getElem? (i := 11) rfl))) (mvT hZ (hw _ (List.mem_of_getElem? (i := 12) rfl))) (notFace_of_selects (args := #[]) (mvT hZ (hw _ (List.mem_of_getElem? (i := 14) rfl)))) (mvT hZ (hw _ (List.mem_of_getElem? (i := 14) rfl))) (mvT hZ (hw _ (List.mem_of_getElem? (i := 13) rfl))) (by decide) (backOf (W := 0) (rm3 l Z a0 hw [] ad12 p1 T14.heap n0 Z14 b12 f15 ga14) hZ (hw _ (List.mem_of_getElem? (i := 15) rfl)) (hw _ (List.mem_of_getElem? (i := 2) rfl)) (by decide) (by decide)) qa17 qc17 (g := (mkF m 12 #[.val (.long p1), .second, .val (.long p2), .second, .val (.ref ad12), .unset, .unset, .unset, .unset, .unset, .unset, .unset, .unset, .unset, .unset, .unset, .unset, .unset, .unset, .unset, .unset] [(.ref ad12)])) rfl (by rw [hml]; rfl) (Steps.refl _) (argsL := []) (rest := []) (lenOf pd_3 rfl) rfl (by show 2 * 0 + _ ≤ _; exact Nat.le_of_eq rfl) (hb hby at_12) (fun _ _ => ⟨rfl, (rfl : T14.heap = T14.heap), (by dsimp only [Pt.cells]; decide), (by dsimp only [Pt.slots]; decide)⟩)
  dsimp only [Pt.U, Pt.locs, Pt.cells, Pt.slots] at X17 l17 y17 z17 st17 hQ17
  subst l17 y17 z17
  obtain ⟨rfl, Nc17, Kc17, ga17⟩ := hQ17
  have N17 := Fr.app N14 Nc17
  refine OwnWp.go st17 ?_
  have Z17 : n0 ≤ T17.heap.size := Nat.le_trans Z14 Kc17.1
  have f18 := Exa.keep f15 Kc17
  show OwnWp p e below s _ _ _ (T17.setTop (mkF m 15 #[.val (.long p1), .second, .val (.long p2), .second, .val (.ref ad12), .unset, .unset, .unset, .unset, .unset, .unset, .unset, .unset, .unset, .unset, .unset, .unset, .unset, .unset, .unset, .unset] [(.long (own_mix (p1 + ((-7046029254386353131) : Int64))))]))
  obtain ⟨w1, qw1⟩ : ∃ z : Int64, z = (own_mix (p1 + ((-7046029254386353131) : Int64))) := ⟨_, rfl⟩
  refine OwnWp.step (U' := T17.setTop (mkF m 17 #[.val (.long p1), .second, .val (.long p2), .second, .val (.ref ad12), .val (.long w1), .second, .unset, .unset, .unset, .unset, .unset, .unset, .unset, .unset, .unset, .unset, .unset, .unset, .unset, .unset] [])) (fun t k => ?_) ?_
  · show Steps p.tables e below (T17.setTop (mkF m 15 #[.val (.long p1), .second, .val (.long p2), .second, .val (.ref ad12), .unset, .unset, .unset, .unset, .unset, .unset, .unset, .unset, .unset, .unset, .unset, .unset, .unset, .unset, .unset, .unset] [(.long (own_mix (p1 + ((-7046029254386353131) : Int64))))])) _
    refine XT.lstore X17.here hx rfl (hb hby at_15) rfl (l' := #[.val (.long p1), .second, .val (.long p2), .second, .val (.ref ad12), .val (.long (own_mix (p1 + ((-7046029254386353131) : Int64)))), .second, .unset, .unset, .unset, .unset, .unset, .unset, .unset, .unset, .unset, .unset, .unset, .unset, .unset, .unset]) rfl ?_
    show Steps p.tables e below (T17.setTop (mkF m 17 #[.val (.long p1), .second, .val (.long p2), .second, .val (.ref ad12), .val (.long (own_mix (p1 + ((-7046029254386353131) : Int64)))), .second, .unset, .unset, .unset, .unset, .unset, .unset, .unset, .unset, .unset, .unset, .unset, .unset, .unset, .unset] [])) _
    rw [qw1] at k
    exact k
  refine OwnWp.step (U' := T17.setTop (mkF m 19 #[.val (.long p1), .second, .val (.long p2), .second, .val (.ref ad12), .val (.long w1), .second, .unset, .unset, .unset, .unset, .unset, .unset, .unset, .unset, .unset, .unset, .unset, .unset, .unset, .unset] [(.ref ad12)])) (fun t k => ?_) ?_
  · show Steps p.tables e below (T17.setTop (mkF m 17 #[.val (.long p1), .second, .val (.long p2), .second, .val (.ref ad12), .val (.long w1), .second, .unset, .unset, .unset, .unset, .unset, .unset, .unset, .unset, .unset, .unset, .unset, .unset, .unset, .unset] [])) _
    refine XS.aload X17.here hx rfl (hb hby at_17) rfl rfl ?_
    show Steps p.tables e below (T17.setTop (mkF m 19 #[.val (.long p1), .second, .val (.long p2), .second, .val (.ref ad12), .val (.long w1), .second, .unset, .unset, .unset, .unset, .unset, .unset, .unset, .unset, .unset, .unset, .unset, .unset, .unset, .unset] [(.ref ad12)])) _
    exact k
  obtain ⟨cq20, kq20, qa20, qb20, qc20⟩ := isOf hZ (rfl : T17.heap = T17.heap) f18
  obtain ⟨_, _, ⟨T20, L20, k20, n20⟩, -, X20, ⟨Lc20, hQ20, l20, y20, z20⟩, st20⟩ := X17.virtualBack hx (y := (⟨"com/example/rankline/rankline/core/SeededRandom", "nextLong", "()J"⟩ : MethodName)) (z := (⟨"com/example/rankline/rankline/core/SeededRandom", "nextLong", "()J"⟩ : MethodName)) hown (mvT hZ (hw _ (List.mem_of_getElem? (i := 11) rfl))) (mvT hZ (hw _ (List.mem_of_getElem? (i := 12) rfl))) (notFace_of_selects (args := #[]) (mvT hZ (hw _ (List.mem_of_getElem? (i := 14) rfl)))) (mvT hZ (hw _ (List.mem_of_getElem? (i := 14) rfl))) (mvT hZ (hw _ (List.mem_of_getElem? (i := 13) rfl))) (by decide) (backOf (W := 0) (rm3 l Z a0 hw [] ad12 (p1 + ((-7046029254386353131) : Int64)) T17.heap n0 Z17 b12 f18 ga17) hZ (hw _ (List.mem_of_getElem? (i := 15) rfl)) (hw _ (List.mem_of_getElem? (i := 2) rfl)) (by decide) (by decide)) qa20 qc20 (g := (mkF m 19 #[.val (.long p1), .second, .val (.long p2), .second, .val (.ref ad12), .val (.long w1), .second, .unset, .unset, .unset, .unset, .unset, .unset, .unset, .unset, .unset, .unset, .unset, .unset, .unset, .unset] [(.ref ad12)])) rfl (by rw [hml]; rfl) (Steps.refl _) (argsL := []) (rest := []) (lenOf pd_3 rfl) rfl (by show 2 * 0 + _ ≤ _; exact Nat.le_of_eq rfl) (hb hby at_19) (fun _ _ => ⟨rfl, (rfl : T17.heap = T17.heap), (by dsimp only [Pt.cells]; decide), (by dsimp only [Pt.slots]; decide)⟩)
  dsimp only [Pt.U, Pt.locs, Pt.cells, Pt.slots] at X20 l20 y20 z20 st20 hQ20
  subst l20 y20 z20
  obtain ⟨rfl, Nc20, Kc20, ga20⟩ := hQ20
  have N20 := Fr.app N17 Nc20
  refine OwnWp.go st20 ?_
  have Z20 : n0 ≤ T20.heap.size := Nat.le_trans Z17 Kc20.1
  have f21 := Exa.keep f18 Kc20
  show OwnWp p e below s _ _ _ (T20.setTop (mkF m 22 #[.val (.long p1), .second, .val (.long p2), .second, .val (.ref ad12), .val (.long w1), .second, .unset, .unset, .unset, .unset, .unset, .unset, .unset, .unset, .unset, .unset, .unset, .unset, .unset, .unset] [(.long (own_mix ((p1 + ((-7046029254386353131) : Int64)) + ((-7046029254386353131) : Int64))))]))
  obtain ⟨w2, qw2⟩ : ∃ z : Int64, z = (own_mix ((p1 + ((-7046029254386353131) : Int64)) + ((-7046029254386353131) : Int64))) := ⟨_, rfl⟩
  refine OwnWp.step (U' := T20.setTop (mkF m 24 #[.val (.long p1), .second, .val (.long p2), .second, .val (.ref ad12), .val (.long w1), .second, .val (.long w2), .second, .unset, .unset, .unset, .unset, .unset, .unset, .unset, .unset, .unset, .unset, .unset, .unset] [])) (fun t k => ?_) ?_
  · show Steps p.tables e below (T20.setTop (mkF m 22 #[.val (.long p1), .second, .val (.long p2), .second, .val (.ref ad12), .val (.long w1), .second, .unset, .unset, .unset, .unset, .unset, .unset, .unset, .unset, .unset, .unset, .unset, .unset, .unset, .unset] [(.long (own_mix ((p1 + ((-7046029254386353131) : Int64)) + ((-7046029254386353131) : Int64))))])) _
    refine XT.lstore X20.here hx rfl (hb hby at_22) rfl (l' := #[.val (.long p1), .second, .val (.long p2), .second, .val (.ref ad12), .val (.long w1), .second, .val (.long (own_mix ((p1 + ((-7046029254386353131) : Int64)) + ((-7046029254386353131) : Int64)))), .second, .unset, .unset, .unset, .unset, .unset, .unset, .unset, .unset, .unset, .unset, .unset, .unset]) rfl ?_
    show Steps p.tables e below (T20.setTop (mkF m 24 #[.val (.long p1), .second, .val (.long p2), .second, .val (.ref ad12), .val (.long w1), .second, .val (.long (own_mix ((p1 + ((-7046029254386353131) : Int64)) + ((-7046029254386353131) : Int64)))), .second, .unset, .unset, .unset, .unset, .unset, .unset, .unset, .unset, .unset, .unset, .unset, .unset] [])) _
    rw [qw2] at k
    exact k
  obtain ⟨T23, h23, X23, e23, E23, A23, D23, -, st23⟩ := newO X20 hx hZ hown (hw _ (List.mem_of_getElem? (i := 0) rfl)) (hw _ (List.mem_of_getElem? (i := 1) rfl)) (hw _ (List.mem_of_getElem? (i := 2) rfl)) (rfl : T20.heap = T20.heap) (g := (mkF m 24 #[.val (.long p1), .second, .val (.long p2), .second, .val (.ref ad12), .val (.long w1), .second, .val (.long w2), .second, .unset, .unset, .unset, .unset, .unset, .unset, .unset, .unset, .unset, .unset, .unset, .unset] [])) rfl (hb hby at_24) (by decide) (by decide)
  obtain ⟨ad23, ga23⟩ : ∃ z, z = T20.heap.size := ⟨_, rfl⟩
  rw [← ga23] at A23 D23 st23
  refine OwnWp.step st23 ?_
  have ne23_24 : ad12 ≠ ad23 := Nat.ne_of_lt (by rw [ga23]; exact ga20.lt)
  have Z23 : n0 ≤ h23.size := Nat.le_trans Z20 E23.1
  have b23 : n0 ≤ ad23 := Nat.le_trans Z20 (Nat.le_of_eq ga23.symm)
  have f25 := Exa.ext E23 f21
  have f26 := Fld.ext E23 ga20
  have F27 : Fld Z h23 ad23 "com/example/rankline/rankline/core/SeededRandom" "state" "J" (.long (0 : Int64)) := D23 (Or.inl (hw _ (List.mem_of_getElem? (i := 10) rfl))) (ty := .long) (by decide)
  show OwnWp p e below s _ _ _ (T23.setTop (mkF m 27 #[.val (.long p1), .second, .val (.long p2), .second, .val (.ref ad12), .val (.long w1), .second, .val (.long w2), .second, .unset, .unset, .unset, .unset, .unset, .unset, .unset, .unset, .unset, .unset, .unset, .unset] [(.ref ad23)]))
  refine OwnWp.step (U' := T23.setTop (mkF m 33 #[.val (.long p1), .second, .val (.long p2), .second, .val (.ref ad12), .val (.long w1), .second, .val (.long w2), .second, .unset, .unset, .unset, .unset, .unset, .unset, .unset, .unset, .unset, .unset, .unset, .unset] [(.long (p1 + ((-7046029254386353131) : Int64))), (.ref ad23), (.ref ad23)])) (fun t k => ?_) ?_
  · show Steps p.tables e below (T23.setTop (mkF m 27 #[.val (.long p1), .second, .val (.long p2), .second, .val (.ref ad12), .val (.long w1), .second, .val (.long w2), .second, .unset, .unset, .unset, .unset, .unset, .unset, .unset, .unset, .unset, .unset, .unset, .unset] [(.ref ad23)])) _
    refine XS.dup X23.here hx rfl (hb hby at_27) rfl rfl ?_
    show Steps p.tables e below (T23.setTop (mkF m 28 #[.val (.long p1), .second, .val (.long p2), .second, .val (.ref ad12), .val (.long w1), .second, .val (.long w2), .second, .unset, .unset, .unset, .unset, .unset, .unset, .unset, .unset, .unset, .unset, .unset, .unset] [(.ref ad23), (.ref ad23)])) _
    refine XT.lloadN X23.here hx rfl (hb hby at_28) rfl ?_
    show Steps p.tables e below (T23.setTop (mkF m 29 #[.val (.long p1), .second, .val (.long p2), .second, .val (.ref ad12), .val (.long w1), .second, .val (.long w2), .second, .unset, .unset, .unset, .unset, .unset, .unset, .unset, .unset, .unset, .unset, .unset, .unset] [(.long p1), (.ref ad23), (.ref ad23)])) _
    refine X23.ldc2J hx hown (mvT hZ (hw _ (List.mem_of_getElem? (i := 19) rfl))) rfl (hb hby at_29) ?_
    show Steps p.tables e below (T23.setTop (mkF m 32 #[.val (.long p1), .second, .val (.long p2), .second, .val (.ref ad12), .val (.long w1), .second, .val (.long w2), .second, .unset, .unset, .unset, .unset, .unset, .unset, .unset, .unset, .unset, .unset, .unset, .unset] [(.long ((-7046029254386353131) : Int64)), (.long p1), (.ref ad23), (.ref ad23)])) _
    refine XT.ladd X23.here hx rfl (hb hby at_32) rfl ?_
    show Steps p.tables e below (T23.setTop (mkF m 33 #[.val (.long p1), .second, .val (.long p2), .second, .val (.ref ad12), .val (.long w1), .second, .val (.long w2), .second, .unset, .unset, .unset, .unset, .unset, .unset, .unset, .unset, .unset, .unset, .unset, .unset] [(.long (p1 + ((-7046029254386353131) : Int64))), (.ref ad23), (.ref ad23)])) _
    exact k
  obtain ⟨_, _, ⟨T28, L28, k28, n28⟩, -, X28, ⟨Lc28, hQ28, l28, y28, z28⟩, st28⟩ := X23.specialBack hx (y := (⟨"com/example/rankline/rankline/core/SeededRandom", "<init>", "(J)V"⟩ : MethodName)) rfl hown (mvT hZ (hw _ (List.mem_of_getElem? (i := 3) rfl))) (mvT hZ (hw _ (List.mem_of_getElem? (i := 4) rfl))) (mvT hZ (hw _ (List.mem_of_getElem? (i := 5) rfl))) (by decide) (backOf (W := 1) (rm1 l Z a0 hw [] ad23 (p1 + ((-7046029254386353131) : Int64)) h23 n0 Z23 b23 A23 F27) hZ (hw _ (List.mem_of_getElem? (i := 5) rfl)) (hw _ (List.mem_of_getElem? (i := 2) rfl)) (by decide) (by decide)) (g := (mkF m 33 #[.val (.long p1), .second, .val (.long p2), .second, .val (.ref ad12), .val (.long w1), .second, .val (.long w2), .second, .unset, .unset, .unset, .unset, .unset, .unset, .unset, .unset, .unset, .unset, .unset, .unset] [(.long (p1 + ((-7046029254386353131) : Int64))), (.ref ad23), (.ref ad23)])) rfl (by rw [hml]; rfl) (Steps.refl _) (a := ad23) (argsL := [(.long (p1 + ((-7046029254386353131) : Int64)))]) (rest := [(.ref ad23)]) (lenOf pd_1 rfl) rfl (by show 2 * 0 + _ ≤ _; exact Nat.le_of_eq rfl) (hb hby at_33) (fun _ _ => ⟨rfl, e23, (by dsimp only [Pt.cells]; decide), (by dsimp only [Pt.slots]; decide)⟩)
  dsimp only [Pt.U, Pt.locs, Pt.cells, Pt.slots] at X28 l28 y28 z28 st28 hQ28
  subst l28 y28 z28
  obtain ⟨rfl, Nc28, Kc28, ga28⟩ := hQ28
  have N28 := Fr.app N20 Nc28
  refine OwnWp.go st28 ?_
  have Z28 : n0 ≤ T28.heap.size := Nat.le_trans Z23 Kc28.1
  have f29 := Exa.keep f25 Kc28
  have f30 := Fld.keep f26 Kc28 (ninS ne23_24 nin0)
  have f31 := Exa.keep A23 Kc28
  show OwnWp p e below s _ _ _ (T28.setTop (mkF m 36 #[.val (.long p1), .second, .val (.long p2), .second, .val (.ref ad12), .val (.long w1), .second, .val (.long w2), .second, .unset, .unset, .unset, .unset, .unset, .unset, .unset, .unset, .unset, .unset, .unset, .unset] [(.ref ad23)]))
  refine OwnWp.step (U' := T28.setTop (mkF m 40 #[.val (.long p1), .second, .val (.long p2), .second, .val (.ref ad12), .val (.long w1), .second, .val (.long w2), .second, .val (.ref ad23), .unset, .unset, .unset, .unset, .unset, .unset, .unset, .unset, .unset, .unset, .unset] [(.ref ad23)])) (fun t k => ?_) ?_
  · show Steps p.tables e below (T28.setTop (mkF m 36 #[.val (.long p1), .second, .val (.long p2), .second, .val (.ref ad12), .val (.long w1), .second, .val (.long w2), .second, .unset, .unset, .unset, .unset, .unset, .unset, .unset, .unset, .unset, .unset, .unset, .unset] [(.ref ad23)])) _
    refine XS.astore X28.here hx rfl (hb hby at_36) rfl rfl (l' := #[.val (.long p1), .second, .val (.long p2), .second, .val (.ref ad12), .val (.long w1), .second, .val (.long w2), .second, .val (.ref ad23), .unset, .unset, .unset, .unset, .unset, .unset, .unset, .unset, .unset, .unset, .unset]) rfl ?_
    show Steps p.tables e below (T28.setTop (mkF m 38 #[.val (.long p1), .second, .val (.long p2), .second, .val (.ref ad12), .val (.long w1), .second, .val (.long w2), .second, .val (.ref ad23), .unset, .unset, .unset, .unset, .unset, .unset, .unset, .unset, .unset, .unset, .unset] [])) _
    refine XS.aload X28.here hx rfl (hb hby at_38) rfl rfl ?_
    show Steps p.tables e below (T28.setTop (mkF m 40 #[.val (.long p1), .second, .val (.long p2), .second, .val (.ref ad12), .val (.long w1), .second, .val (.long w2), .second, .val (.ref ad23), .unset, .unset, .unset, .unset, .unset, .unset, .unset, .unset, .unset, .unset, .unset] [(.ref ad23)])) _
    exact k
  obtain ⟨cq33, kq33, qa33, qb33, qc33⟩ := isOf hZ (rfl : T28.heap = T28.heap) f31
  obtain ⟨_, _, ⟨T33, L33, k33, n33⟩, -, X33, ⟨Lc33, hQ33, l33, y33, z33⟩, st33⟩ := X28.virtualBack hx (y := (⟨"com/example/rankline/rankline/core/SeededRandom", "nextLong", "()J"⟩ : MethodName)) (z := (⟨"com/example/rankline/rankline/core/SeededRandom", "nextLong", "()J"⟩ : MethodName)) hown (mvT hZ (hw _ (List.mem_of_getElem? (i := 11) rfl))) (mvT hZ (hw _ (List.mem_of_getElem? (i := 12) rfl))) (notFace_of_selects (args := #[]) (mvT hZ (hw _ (List.mem_of_getElem? (i := 14) rfl)))) (mvT hZ (hw _ (List.mem_of_getElem? (i := 14) rfl))) (mvT hZ (hw _ (List.mem_of_getElem? (i := 13) rfl))) (by decide) (backOf (W := 0) (rm3 l Z a0 hw [] ad23 (p1 + ((-7046029254386353131) : Int64)) T28.heap n0 Z28 b23 f31 ga28) hZ (hw _ (List.mem_of_getElem? (i := 15) rfl)) (hw _ (List.mem_of_getElem? (i := 2) rfl)) (by decide) (by decide)) qa33 qc33 (g := (mkF m 40 #[.val (.long p1), .second, .val (.long p2), .second, .val (.ref ad12), .val (.long w1), .second, .val (.long w2), .second, .val (.ref ad23), .unset, .unset, .unset, .unset, .unset, .unset, .unset, .unset, .unset, .unset, .unset] [(.ref ad23)])) rfl (by rw [hml]; rfl) (Steps.refl _) (argsL := []) (rest := []) (lenOf pd_3 rfl) rfl (by show 2 * 0 + _ ≤ _; exact Nat.le_of_eq rfl) (hb hby at_40) (fun _ _ => ⟨rfl, (rfl : T28.heap = T28.heap), (by dsimp only [Pt.cells]; decide), (by dsimp only [Pt.slots]; decide)⟩)
  dsimp only [Pt.U, Pt.locs, Pt.cells, Pt.slots] at X33 l33 y33 z33 st33 hQ33
  subst l33 y33 z33
  obtain ⟨rfl, Nc33, Kc33, ga33⟩ := hQ33
  have N33 := Fr.app N28 Nc33
  refine OwnWp.go st33 ?_
  have Z33 : n0 ≤ T33.heap.size := Nat.le_trans Z28 Kc33.1
  have f34 := Exa.keep f29 Kc33
  have f35 := Fld.keep f30 Kc33 (ninS ne23_24 nin0)
  have f36 := Exa.keep f31 Kc33
  show OwnWp p e below s _ _ _ (T33.setTop (mkF m 43 #[.val (.long p1), .second, .val (.long p2), .second, .val (.ref ad12), .val (.long w1), .second, .val (.long w2), .second, .val (.ref ad23), .unset, .unset, .unset, .unset, .unset, .unset, .unset, .unset, .unset, .unset, .unset] [(.long (own_mix ((p1 + ((-7046029254386353131) : Int64)) + ((-7046029254386353131) : Int64))))]))
  obtain ⟨w3, qw3⟩ : ∃ z : Int64, z = (own_mix ((p1 + ((-7046029254386353131) : Int64)) + ((-7046029254386353131) : Int64))) := ⟨_, rfl⟩
  refine OwnWp.step (U' := T33.setTop (mkF m 45 #[.val (.long p1), .second, .val (.long p2), .second, .val (.ref ad12), .val (.long w1), .second, .val (.long w2), .second, .val (.ref ad23), .val (.long w3), .second, .unset, .unset, .unset, .unset, .unset, .unset, .unset, .unset, .unset] [])) (fun t k => ?_) ?_
  · show Steps p.tables e below (T33.setTop (mkF m 43 #[.val (.long p1), .second, .val (.long p2), .second, .val (.ref ad12), .val (.long w1), .second, .val (.long w2), .second, .val (.ref ad23), .unset, .unset, .unset, .unset, .unset, .unset, .unset, .unset, .unset, .unset, .unset] [(.long (own_mix ((p1 + ((-7046029254386353131) : Int64)) + ((-7046029254386353131) : Int64))))])) _
    refine XT.lstore X33.here hx rfl (hb hby at_43) rfl (l' := #[.val (.long p1), .second, .val (.long p2), .second, .val (.ref ad12), .val (.long w1), .second, .val (.long w2), .second, .val (.ref ad23), .val (.long (own_mix ((p1 + ((-7046029254386353131) : Int64)) + ((-7046029254386353131) : Int64)))), .second, .unset, .unset, .unset, .unset, .unset, .unset, .unset, .unset, .unset]) rfl ?_
    show Steps p.tables e below (T33.setTop (mkF m 45 #[.val (.long p1), .second, .val (.long p2), .second, .val (.ref ad12), .val (.long w1), .second, .val (.long w2), .second, .val (.ref ad23), .val (.long (own_mix ((p1 + ((-7046029254386353131) : Int64)) + ((-7046029254386353131) : Int64)))), .second, .unset, .unset, .unset, .unset, .unset, .unset, .unset, .unset, .unset] [])) _
    rw [qw3] at k
    exact k
  obtain ⟨T38, h38, X38, e38, E38, A38, D38, -, st38⟩ := newO X33 hx hZ hown (hw _ (List.mem_of_getElem? (i := 0) rfl)) (hw _ (List.mem_of_getElem? (i := 1) rfl)) (hw _ (List.mem_of_getElem? (i := 2) rfl)) (rfl : T33.heap = T33.heap) (g := (mkF m 45 #[.val (.long p1), .second, .val (.long p2), .second, .val (.ref ad12), .val (.long w1), .second, .val (.long w2), .second, .val (.ref ad23), .val (.long w3), .second, .unset, .unset, .unset, .unset, .unset, .unset, .unset, .unset, .unset] [])) rfl (hb hby at_45) (by decide) (by decide)
  obtain ⟨ad38, ga38⟩ : ∃ z, z = T33.heap.size := ⟨_, rfl⟩
  rw [← ga38] at A38 D38 st38
  refine OwnWp.step st38 ?_
  have ne38_39 : ad12 ≠ ad38 := Nat.ne_of_lt (by rw [ga38]; exact f35.lt)
  have ne38_40 : ad23 ≠ ad38 := Nat.ne_of_lt (by rw [ga38]; exact ga33.lt)
  have Z38 : n0 ≤ h38.size := Nat.le_trans Z33 E38.1
  have b38 : n0 ≤ ad38 := Nat.le_trans Z33 (Nat.le_of_eq ga38.symm)
  have f41 := Exa.ext E38 f34
  have f42 := Fld.ext E38 f35
  have f43 := Exa.ext E38 f36
  have f44 := Fld.ext E38 ga33
  have F45 : Fld Z h38 ad38 "com/example/rankline/rankline/core/SeededRandom" "state" "J" (.long (0 : Int64)) := D38 (Or.inl (hw _ (List.mem_of_getElem? (i := 10) rfl))) (ty := .long) (by decide)
  show OwnWp p e below s _ _ _ (T38.setTop (mkF m 48 #[.val (.long p1), .second, .val (.long p2), .second, .val (.ref ad12), .val (.long w1), .second, .val (.long w2), .second, .val (.ref ad23), .val (.long w3), .second, .unset, .unset, .unset, .unset, .unset, .unset, .unset, .unset, .unset] [(.ref ad38)]))
  refine OwnWp.step (U' := T38.setTop (mkF m 50 #[.val (.long p1), .second, .val (.long p2), .second, .val (.ref ad12), .val (.long w1), .second, .val (.long w2), .second, .val (.ref ad23), .val (.long w3), .second, .unset, .unset, .unset, .unset, .unset, .unset, .unset, .unset, .unset] [(.long p2), (.ref ad38), (.ref ad38)])) (fun t k => ?_) ?_
  · show Steps p.tables e below (T38.setTop (mkF m 48 #[.val (.long p1), .second, .val (.long p2), .second, .val (.ref ad12), .val (.long w1), .second, .val (.long w2), .second, .val (.ref ad23), .val (.long w3), .second, .unset, .unset, .unset, .unset, .unset, .unset, .unset, .unset, .unset] [(.ref ad38)])) _
    refine XS.dup X38.here hx rfl (hb hby at_48) rfl rfl ?_
    show Steps p.tables e below (T38.setTop (mkF m 49 #[.val (.long p1), .second, .val (.long p2), .second, .val (.ref ad12), .val (.long w1), .second, .val (.long w2), .second, .val (.ref ad23), .val (.long w3), .second, .unset, .unset, .unset, .unset, .unset, .unset, .unset, .unset, .unset] [(.ref ad38), (.ref ad38)])) _
    refine XT.lloadN X38.here hx rfl (hb hby at_49) rfl ?_
    show Steps p.tables e below (T38.setTop (mkF m 50 #[.val (.long p1), .second, .val (.long p2), .second, .val (.ref ad12), .val (.long w1), .second, .val (.long w2), .second, .val (.ref ad23), .val (.long w3), .second, .unset, .unset, .unset, .unset, .unset, .unset, .unset, .unset, .unset] [(.long p2), (.ref ad38), (.ref ad38)])) _
    exact k
  obtain ⟨_, _, ⟨T46, L46, k46, n46⟩, -, X46, ⟨Lc46, hQ46, l46, y46, z46⟩, st46⟩ := X38.specialBack hx (y := (⟨"com/example/rankline/rankline/core/SeededRandom", "<init>", "(J)V"⟩ : MethodName)) rfl hown (mvT hZ (hw _ (List.mem_of_getElem? (i := 3) rfl))) (mvT hZ (hw _ (List.mem_of_getElem? (i := 4) rfl))) (mvT hZ (hw _ (List.mem_of_getElem? (i := 5) rfl))) (by decide) (backOf (W := 1) (rm1 l Z a0 hw [] ad38 p2 h38 n0 Z38 b38 A38 F45) hZ (hw _ (List.mem_of_getElem? (i := 5) rfl)) (hw _ (List.mem_of_getElem? (i := 2) rfl)) (by decide) (by decide)) (g := (mkF m 50 #[.val (.long p1), .second, .val (.long p2), .second, .val (.ref ad12), .val (.long w1), .second, .val (.long w2), .second, .val (.ref ad23), .val (.long w3), .second, .unset, .unset, .unset, .unset, .unset, .unset, .unset, .unset, .unset] [(.long p2), (.ref ad38), (.ref ad38)])) rfl (by rw [hml]; rfl) (Steps.refl _) (a := ad38) (argsL := [(.long p2)]) (rest := [(.ref ad38)]) (lenOf pd_1 rfl) rfl (by show 2 * 0 + _ ≤ _; exact Nat.le_of_eq rfl) (hb hby at_50) (fun _ _ => ⟨rfl, e38, (by dsimp only [Pt.cells]; decide), (by dsimp only [Pt.slots]; decide)⟩)
  dsimp only [Pt.U, Pt.locs, Pt.cells, Pt.slots] at X46 l46 y46 z46 st46 hQ46
  subst l46 y46 z46
  obtain ⟨rfl, Nc46, Kc46, ga46⟩ := hQ46
  have N46 := Fr.app N33 Nc46
  refine OwnWp.go st46 ?_
  have Z46 : n0 ≤ T46.heap.size := Nat.le_trans Z38 Kc46.1
  have f47 := Exa.keep f41 Kc46
  have f48 := Fld.keep f42 Kc46 (ninS ne38_39 nin0)
  have f49 := Exa.keep f43 Kc46
  have f50 := Fld.keep f44 Kc46 (ninS ne38_40 nin0)
  have f51 := Exa.keep A38 Kc46
  show OwnWp p e below s _ _ _ (T46.setTop (mkF m 53 #[.val (.long p1), .second, .val (.long p2), .second, .val (.ref ad12), .val (.long w1), .second, .val (.long w2), .second, .val (.ref ad23), .val (.long w3), .second, .unset, .unset, .unset, .unset, .unset, .unset, .unset, .unset, .unset] [(.ref ad38)]))
  refine OwnWp.step (U' := T46.setTop (mkF m 57 #[.val (.long p1), .second, .val (.long p2), .second, .val (.ref ad12), .val (.long w1), .second, .val (.long w2), .second, .val (.ref ad23), .val (.long w3), .second, .val (.ref ad38), .unset, .unset, .unset, .unset, .unset, .unset, .unset, .unset] [(.ref ad38)])) (fun t k => ?_) ?_
  · show Steps p.tables e below (T46.setTop (mkF m 53 #[.val (.long p1), .second, .val (.long p2), .second, .val (.ref ad12), .val (.long w1), .second, .val (.long w2), .second, .val (.ref ad23), .val (.long w3), .second, .unset, .unset, .unset, .unset, .unset, .unset, .unset, .unset, .unset] [(.ref ad38)])) _
    refine XS.astore X46.here hx rfl (hb hby at_53) rfl rfl (l' := #[.val (.long p1), .second, .val (.long p2), .second, .val (.ref ad12), .val (.long w1), .second, .val (.long w2), .second, .val (.ref ad23), .val (.long w3), .second, .val (.ref ad38), .unset, .unset, .unset, .unset, .unset, .unset, .unset, .unset]) rfl ?_
    show Steps p.tables e below (T46.setTop (mkF m 55 #[.val (.long p1), .second, .val (.long p2), .second, .val (.ref ad12), .val (.long w1), .second, .val (.long w2), .second, .val (.ref ad23), .val (.long w3), .second, .val (.ref ad38), .unset, .unset, .unset, .unset, .unset, .unset, .unset, .unset] [])) _
    refine XS.aload X46.here hx rfl (hb hby at_55) rfl rfl ?_
    show Steps p.tables e below (T46.setTop (mkF m 57 #[.val (.long p1), .second, .val (.long p2), .second, .val (.ref ad12), .val (.long w1), .second, .val (.long w2), .second, .val (.ref ad23), .val (.long w3), .second, .val (.ref ad38), .unset, .unset, .unset, .unset, .unset, .unset, .unset, .unset] [(.ref ad38)])) _
    exact k
  obtain ⟨cq53, kq53, qa53, qb53, qc53⟩ := isOf hZ (rfl : T46.heap = T46.heap) f51
  obtain ⟨_, _, ⟨T53, L53, k53, n53⟩, -, X53, ⟨Lc53, hQ53, l53, y53, z53⟩, st53⟩ := X46.virtualBack hx (y := (⟨"com/example/rankline/rankline/core/SeededRandom", "nextLong", "()J"⟩ : MethodName)) (z := (⟨"com/example/rankline/rankline/core/SeededRandom", "nextLong", "()J"⟩ : MethodName)) hown (mvT hZ (hw _ (List.mem_of_getElem? (i := 11) rfl))) (mvT hZ (hw _ (List.mem_of_getElem? (i := 12) rfl))) (notFace_of_selects (args := #[]) (mvT hZ (hw _ (List.mem_of_getElem? (i := 14) rfl)))) (mvT hZ (hw _ (List.mem_of_getElem? (i := 14) rfl))) (mvT hZ (hw _ (List.mem_of_getElem? (i := 13) rfl))) (by decide) (backOf (W := 0) (rm3 l Z a0 hw [] ad38 p2 T46.heap n0 Z46 b38 f51 ga46) hZ (hw _ (List.mem_of_getElem? (i := 15) rfl)) (hw _ (List.mem_of_getElem? (i := 2) rfl)) (by decide) (by decide)) qa53 qc53 (g := (mkF m 57 #[.val (.long p1), .second, .val (.long p2), .second, .val (.ref ad12), .val (.long w1), .second, .val (.long w2), .second, .val (.ref ad23), .val (.long w3), .second, .val (.ref ad38), .unset, .unset, .unset, .unset, .unset, .unset, .unset, .unset] [(.ref ad38)])) rfl (by rw [hml]; rfl) (Steps.refl _) (argsL := []) (rest := []) (lenOf pd_3 rfl) rfl (by show 2 * 0 + _ ≤ _; exact Nat.le_of_eq rfl) (hb hby at_57) (fun _ _ => ⟨rfl, (rfl : T46.heap = T46.heap), (by dsimp only [Pt.cells]; decide), (by dsimp only [Pt.slots]; decide)⟩)
  dsimp only [Pt.U, Pt.locs, Pt.cells, Pt.slots] at X53 l53 y53 z53 st53 hQ53
  subst l53 y53 z53
  obtain ⟨rfl, Nc53, Kc53, ga53⟩ := hQ53
  have N53 := Fr.app N46 Nc53
  refine OwnWp.go st53 ?_
  have Z53 : n0 ≤ T53.heap.size := Nat.le_trans Z46 Kc53.1
  have f54 := Exa.keep f47 Kc53
  have f55 := Fld.keep f48 Kc53 (ninS ne38_39 nin0)
  have f56 := Exa.keep f49 Kc53
  have f57 := Fld.keep f50 Kc53 (ninS ne38_40 nin0)
  have f58 := Exa.keep f51 Kc53
  show OwnWp p e below s _ _ _ (T53.setTop (mkF m 60 #[.val (.long p1), .second, .val (.long p2), .second, .val (.ref ad12), .val (.long w1), .second, .val (.long w2), .second, .val (.ref ad23), .val (.long w3), .second, .val (.ref ad38), .unset, .unset, .unset, .unset, .unset, .unset, .unset, .unset] [(.long (own_mix (p2 + ((-7046029254386353131) : Int64))))]))
  obtain ⟨w4, qw4⟩ : ∃ z : Int64, z = (own_mix (p2 + ((-7046029254386353131) : Int64))) := ⟨_, rfl⟩
  refine OwnWp.step (U' := T53.setTop (mkF m 62 #[.val (.long p1), .second, .val (.long p2), .second, .val (.ref ad12), .val (.long w1), .second, .val (.long w2), .second, .val (.ref ad23), .val (.long w3), .second, .val (.ref ad38), .val (.long w4), .second, .unset, .unset, .unset, .unset, .unset, .unset] [])) (fun t k => ?_) ?_
  · show Steps p.tables e below (T53.setTop (mkF m 60 #[.val (.long p1), .second, .val (.long p2), .second, .val (.ref ad12), .val (.long w1), .second, .val (.long w2), .second, .val (.ref ad23), .val (.long w3), .second, .val (.ref ad38), .unset, .unset, .unset, .unset, .unset, .unset, .unset, .unset] [(.long (own_mix (p2 + ((-7046029254386353131) : Int64))))])) _
    refine XT.lstore X53.here hx rfl (hb hby at_60) rfl (l' := #[.val (.long p1), .second, .val (.long p2), .second, .val (.ref ad12), .val (.long w1), .second, .val (.long w2), .second, .val (.ref ad23), .val (.long w3), .second, .val (.ref ad38), .val (.long (own_mix (p2 + ((-7046029254386353131) : Int64)))), .second, .unset, .unset, .unset, .unset, .unset, .unset]) rfl ?_
    show Steps p.tables e below (T53.setTop (mkF m 62 #[.val (.long p1), .second, .val (.long p2), .second, .val (.ref ad12), .val (.long w1), .second, .val (.long w2), .second, .val (.ref ad23), .val (.long w3), .second, .val (.ref ad38), .val (.long (own_mix (p2 + ((-7046029254386353131) : Int64)))), .second, .unset, .unset, .unset, .unset, .unset, .unset] [])) _
    rw [qw4] at k
    exact k
  obtain ⟨T60, h60, X60, e60, E60, A60, D60, -, st60⟩ := newO X53 hx hZ hown (hw _ (List.mem_of_getElem? (i := 0) rfl)) (hw _ (List.mem_of_getElem? (i := 1) rfl)) (hw _ (List.mem_of_getElem? (i := 2) rfl)) (rfl : T53.heap = T53.heap) (g := (mkF m 62 #[.val (.long p1), .second, .val (.long p2), .second, .val (.ref ad12), .val (.long w1), .second, .val (.long w2), .second, .val (.ref ad23), .val (.long w3), .second, .val (.ref ad38), .val (.long w4), .second, .unset, .unset, .unset, .unset, .unset, .unset] [])) rfl (hb hby at_62) (by decide) (by decide)
  obtain ⟨ad60, ga60⟩ : ∃ z, z = T53.heap.size := ⟨_, rfl⟩
  rw [← ga60] at A60 D60 st60
  refine OwnWp.step st60 ?_
  have ne60_61 : ad12 ≠ ad60 := Nat.ne_of_lt (by rw [ga60]; exact f55.lt)
  have ne60_62 : ad23 ≠ ad60 := Nat.ne_of_lt (by rw [ga60]; exact f57.lt)
  have ne60_63 : ad38 ≠ ad60 := Nat.ne_of_lt (by rw [ga60]; exact ga53.lt)
  have Z60 : n0 ≤ h60.size := Nat.le_trans Z53 E60.1
  have b60 : n0 ≤ ad60 := Nat.le_trans Z53 (Nat.le_of_eq ga60.symm)
  have f64 := Exa.ext E60 f54
  have f65 := Fld.ext E60 f55
  have f66 := Exa.ext E60 f56
  have f67 := Fld.ext E60 f57
  have f68 := Exa.ext E60 f58
  have f69 := Fld.ext E60 ga53
  have F70 : Fld Z h60 ad60 "com/example/rankline/rankline/core/SeededRandom" "state" "J" (.long (0 : Int64)) := D60 (Or.inl (hw _ (List.mem_of_getElem? (i := 10) rfl))) (ty := .long) (by decide)
  show OwnWp p e below s _ _ _ (T60.setTop (mkF m 65 #[.val (.long p1), .second, .val (.long p2), .second, .val (.ref ad12), .val (.long w1), .second, .val (.long w2), .second, .val (.ref ad23), .val (.long w3), .second, .val (.ref ad38), .val (.long w4), .second, .unset, .unset, .unset, .unset, .unset, .unset] [(.ref ad60)]))
  refine OwnWp.step (U' := T60.setTop (mkF m 67 #[.val (.long p1), .second, .val (.long p2), .second, .val (.ref ad12), .val (.long w1), .second, .val (.long w2), .second, .val (.ref ad23), .val (.long w3), .second, .val (.ref ad38), .val (.long w4), .second, .unset, .unset, .unset, .unset, .unset, .unset] [(.long (0 : Int64)), (.ref ad60), (.ref ad60)])) (fun t k => ?_) ?_
  · show Steps p.tables e below (T60.setTop (mkF m 65 #[.val (.long p1), .second, .val (.long p2), .second, .val (.ref ad12), .val (.long w1), .second, .val (.long w2), .second, .val (.ref ad23), .val (.long w3), .second, .val (.ref ad38), .val (.long w4), .second, .unset, .unset, .unset, .unset, .unset, .unset] [(.ref ad60)])) _
    refine XS.dup X60.here hx rfl (hb hby at_65) rfl rfl ?_
    show Steps p.tables e below (T60.setTop (mkF m 66 #[.val (.long p1), .second, .val (.long p2), .second, .val (.ref ad12), .val (.long w1), .second, .val (.long w2), .second, .val (.ref ad23), .val (.long w3), .second, .val (.ref ad38), .val (.long w4), .second, .unset, .unset, .unset, .unset, .unset, .unset] [(.ref ad60), (.ref ad60)])) _
    refine XT.lconstV X60.here hx rfl (0 : Int64) (hb hby at_66) rfl ?_
    show Steps p.tables e below (T60.setTop (mkF m 67 #[.val (.long p1), .second, .val (.long p2), .second, .val (.ref ad12), .val (.long w1), .second, .val (.long w2), .second, .val (.ref ad23), .val (.long w3), .second, .val (.ref ad38), .val (.long w4), .second, .unset, .unset, .unset, .unset, .unset, .unset] [(.long (0 : Int64)), (.ref ad60), (.ref ad60)])) _
    exact k
  obtain ⟨_, _, ⟨T71, L71, k71, n71⟩, -, X71, ⟨Lc71, hQ71, l71, y71, z71⟩, st71⟩ := X60.specialBack hx (y := (⟨"com/example/rankline/rankline/core/SeededRandom", "<init>", "(J)V"⟩ : MethodName)) rfl hown (mvT hZ (hw _ (List.mem_of_getElem? (i := 3) rfl))) (mvT hZ (hw _ (List.mem_of_getElem? (i := 4) rfl))) (mvT hZ (hw _ (List.mem_of_getElem? (i := 5) rfl))) (by decide) (backOf (W := 1) (rm1 l Z a0 hw [] ad60 (0 : Int64) h60 n0 Z60 b60 A60 F70) hZ (hw _ (List.mem_of_getElem? (i := 5) rfl)) (hw _ (List.mem_of_getElem? (i := 2) rfl)) (by decide) (by decide)) (g := (mkF m 67 #[.val (.long p1), .second, .val (.long p2), .second, .val (.ref ad12), .val (.long w1), .second, .val (.long w2), .second, .val (.ref ad23), .val (.long w3), .second, .val (.ref ad38), .val (.long w4), .second, .unset, .unset, .unset, .unset, .unset, .unset] [(.long (0 : Int64)), (.ref ad60), (.ref ad60)])) rfl (by rw [hml]; rfl) (Steps.refl _) (a := ad60) (argsL := [(.long (0 : Int64))]) (rest := [(.ref ad60)]) (lenOf pd_1 rfl) rfl (by show 2 * 0 + _ ≤ _; exact Nat.le_of_eq rfl) (hb hby at_67) (fun _ _ => ⟨rfl, e60, (by dsimp only [Pt.cells]; decide), (by dsimp only [Pt.slots]; decide)⟩)
  dsimp only [Pt.U, Pt.locs, Pt.cells, Pt.slots] at X71 l71 y71 z71 st71 hQ71
  subst l71 y71 z71
  obtain ⟨rfl, Nc71, Kc71, ga71⟩ := hQ71
  have N71 := Fr.app N53 Nc71
  refine OwnWp.go st71 ?_
  have Z71 : n0 ≤ T71.heap.size := Nat.le_trans Z60 Kc71.1
  have f72 := Exa.keep f64 Kc71
  have f73 := Fld.keep f65 Kc71 (ninS ne60_61 nin0)
  have f74 := Exa.keep f66 Kc71
  have f75 := Fld.keep f67 Kc71 (ninS ne60_62 nin0)
  have f76 := Exa.keep f68 Kc71
  have f77 := Fld.keep f69 Kc71 (ninS ne60_63 nin0)
  have f78 := Exa.keep A60 Kc71
  show OwnWp p e below s _ _ _ (T71.setTop (mkF m 70 #[.val (.long p1), .second, .val (.long p2), .second, .val (.ref ad12), .val (.long w1), .second, .val (.long w2), .second, .val (.ref ad23), .val (.long w3), .second, .val (.ref ad38), .val (.long w4), .second, .unset, .unset, .unset, .unset, .unset, .unset] [(.ref ad60)]))
  refine OwnWp.step (U' := T71.setTop (mkF m 74 #[.val (.long p1), .second, .val (.long p2), .second, .val (.ref ad12), .val (.long w1), .second, .val (.long w2), .second, .val (.ref ad23), .val (.long w3), .second, .val (.ref ad38), .val (.long w4), .second, .val (.ref ad60), .unset, .unset, .unset, .unset, .unset] [(.ref ad60)])) (fun t k => ?_) ?_
  · show Steps p.tables e below (T71.setTop (mkF m 70 #[.val (.long p1), .second, .val (.long p2), .second, .val (.ref ad12), .val (.long w1), .second, .val (.long w2), .second, .val (.ref ad23), .val (.long w3), .second, .val (.ref ad38), .val (.long w4), .second, .unset, .unset, .unset, .unset, .unset, .unset] [(.ref ad60)])) _
    refine XS.astore X71.here hx rfl (hb hby at_70) rfl rfl (l' := #[.val (.long p1), .second, .val (.long p2), .second, .val (.ref ad12), .val (.long w1), .second, .val (.long w2), .second, .val (.ref ad23), .val (.long w3), .second, .val (.ref ad38), .val (.long w4), .second, .val (.ref ad60), .unset, .unset, .unset, .unset, .unset]) rfl ?_
    show Steps p.tables e below (T71.setTop (mkF m 72 #[.val (.long p1), .second, .val (.long p2), .second, .val (.ref ad12), .val (.long w1), .second, .val (.long w2), .second, .val (.ref ad23), .val (.long w3), .second, .val (.ref ad38), .val (.long w4), .second, .val (.ref ad60), .unset, .unset, .unset, .unset, .unset] [])) _
    refine XS.aload X71.here hx rfl (hb hby at_72) rfl rfl ?_
    show Steps p.tables e below (T71.setTop (mkF m 74 #[.val (.long p1), .second, .val (.long p2), .second, .val (.ref ad12), .val (.long w1), .second, .val (.long w2), .second, .val (.ref ad23), .val (.long w3), .second, .val (.ref ad38), .val (.long w4), .second, .val (.ref ad60), .unset, .unset, .unset, .unset, .unset] [(.ref ad60)])) _
    exact k
  obtain ⟨cq80, kq80, qa80, qb80, qc80⟩ := isOf hZ (rfl : T71.heap = T71.heap) f78
  obtain ⟨_, _, ⟨T80, L80, k80, n80⟩, -, X80, ⟨Lc80, hQ80, l80, y80, z80⟩, st80⟩ := X71.virtualBack hx (y := (⟨"com/example/rankline/rankline/core/SeededRandom", "nextLong", "()J"⟩ : MethodName)) (z := (⟨"com/example/rankline/rankline/core/SeededRandom", "nextLong", "()J"⟩ : MethodName)) hown (mvT hZ (hw _ (List.mem_of_getElem? (i := 11) rfl))) (mvT hZ (hw _ (List.mem_of_getElem? (i := 12) rfl))) (notFace_of_selects (args := #[]) (mvT hZ (hw _ (List.mem_of_getElem? (i := 14) rfl)))) (mvT hZ (hw _ (List.mem_of_getElem? (i := 14) rfl))) (mvT hZ (hw _ (List.mem_of_getElem? (i := 13) rfl))) (by decide) (backOf (W := 0) (rm3 l Z a0 hw [] ad60 (0 : Int64) T71.heap n0 Z71 b60 f78 ga71) hZ (hw _ (List.mem_of_getElem? (i := 15) rfl)) (hw _ (List.mem_of_getElem? (i := 2) rfl)) (by decide) (by decide)) qa80 qc80 (g := (mkF m 74 #[.val (.long p1), .second, .val (.long p2), .second, .val (.ref ad12), .val (.long w1), .second, .val (.long w2), .second, .val (.ref ad23), .val (.long w3), .second, .val (.ref ad38), .val (.long w4), .second, .val (.ref ad60), .unset, .unset, .unset, .unset, .unset] [(.ref ad60)])) rfl (by rw [hml]; rfl) (Steps.refl _) (argsL := []) (rest := []) (lenOf pd_3 rfl) rfl (by show 2 * 0 + _ ≤ _; exact Nat.le_of_eq rfl) (hb hby at_74) (fun _ _ => ⟨rfl, (rfl : T71.heap = T71.heap), (by dsimp only [Pt.cells]; decide), (by dsimp only [Pt.slots]; decide)⟩)
  dsimp only [Pt.U, Pt.locs, Pt.cells, Pt.slots] at X80 l80 y80 z80 st80 hQ80
  subst l80 y80 z80
  obtain ⟨rfl, Nc80, Kc80, ga80⟩ := hQ80
  have N80 := Fr.app N71 Nc80
  refine OwnWp.go st80 ?_
  have Z80 : n0 ≤ T80.heap.size := Nat.le_trans Z71 Kc80.1
  have f81 := Exa.keep f72 Kc80
  have f82 := Fld.keep f73 Kc80 (ninS ne60_61 nin0)
  have f83 := Exa.keep f74 Kc80
  have f84 := Fld.keep f75 Kc80 (ninS ne60_62 nin0)
  have f85 := Exa.keep f76 Kc80
  have f86 := Fld.keep f77 Kc80 (ninS ne60_63 nin0)
  have f87 := Exa.keep f78 Kc80
  show OwnWp p e below s _ _ _ (T80.setTop (mkF m 77 #[.val (.long p1), .second, .val (.long p2), .second, .val (.ref ad12), .val (.long w1), .second, .val (.long w2), .second, .val (.ref ad23), .val (.long w3), .second, .val (.ref ad38), .val (.long w4), .second, .val (.ref ad60), .unset, .unset, .unset, .unset, .unset] [(.long (own_mix ((0 : Int64) + ((-7046029254386353131) : Int64))))]))
  obtain ⟨w5, qw5⟩ : ∃ z : Int64, z = (own_mix ((0 : Int64) + ((-7046029254386353131) : Int64))) := ⟨_, rfl⟩
  refine OwnWp.step (U' := T80.setTop (mkF m 79 #[.val (.long p1), .second, .val (.long p2), .second, .val (.ref ad12), .val (.long w1), .second, .val (.long w2), .second, .val (.ref ad23), .val (.long w3), .second, .val (.ref ad38), .val (.long w4), .second, .val (.ref ad60), .val (.long w5), .second, .unset, .unset, .unset] [])) (fun t k => ?_) ?_
  · show Steps p.tables e below (T80.setTop (mkF m 77 #[.val (.long p1), .second, .val (.long p2), .second, .val (.ref ad12), .val (.long w1), .second, .val (.long w2), .second, .val (.ref ad23), .val (.long w3), .second, .val (.ref ad38), .val (.long w4), .second, .val (.ref ad60), .unset, .unset, .unset, .unset, .unset] [(.long (own_mix ((0 : Int64) + ((-7046029254386353131) : Int64))))])) _
    refine XT.lstore X80.here hx rfl (hb hby at_77) rfl (l' := #[.val (.long p1), .second, .val (.long p2), .second, .val (.ref ad12), .val (.long w1), .second, .val (.long w2), .second, .val (.ref ad23), .val (.long w3), .second, .val (.ref ad38), .val (.long w4), .second, .val (.ref ad60), .val (.long (own_mix ((0 : Int64) + ((-7046029254386353131) : Int64)))), .second, .unset, .unset, .unset]) rfl ?_
    show Steps p.tables e below (T80.setTop (mkF m 79 #[.val (.long p1), .second, .val (.long p2), .second, .val (.ref ad12), .val (.long w1), .second, .val (.long w2), .second, .val (.ref ad23), .val (.long w3), .second, .val (.ref ad38), .val (.long w4), .second, .val (.ref ad60), .val (.long (own_mix ((0 : Int64) + ((-7046029254386353131) : Int64)))), .second, .unset, .unset, .unset] [])) _
    rw [qw5] at k
    exact k
  refine OwnWp.step (U' := T80.setTop (mkF m 84 #[.val (.long p1), .second, .val (.long p2), .second, .val (.ref ad12), .val (.long w1), .second, .val (.long w2), .second, .val (.ref ad23), .val (.long w3), .second, .val (.ref ad38), .val (.long w4), .second, .val (.ref ad60), .val (.long w5), .second, .unset, .unset, .unset] [(.int (XT.cmpL w2 w3))])) (fun t k => ?_) ?_
  · show Steps p.tables e below (T80.setTop (mkF m 79 #[.val (.long p1), .second, .val (.long p2), .second, .val (.ref ad12), .val (.long w1), .second, .val (.long w2), .second, .val (.ref ad23), .val (.long w3), .second, .val (.ref ad38), .val (.long w4), .second, .val (.ref ad60), .val (.long w5), .second, .unset, .unset, .unset] [])) _
    refine XT.lload X80.here hx rfl (hb hby at_79) rfl ?_
    show Steps p.tables e below (T80.setTop (mkF m 81 #[.val (.long p1), .second, .val (.long p2), .second, .val (.ref ad12), .val (.long w1), .second, .val (.long w2), .second, .val (.ref ad23), .val (.long w3), .second, .val (.ref ad38), .val (.long w4), .second, .val (.ref ad60), .val (.long w5), .second, .unset, .unset, .unset] [(.long w2)])) _
    refine XT.lload X80.here hx rfl (hb hby at_81) rfl ?_
    show Steps p.tables e below (T80.setTop (mkF m 83 #[.val (.long p1), .second, .val (.long p2), .second, .val (.ref ad12), .val (.long w1), .second, .val (.long w2), .second, .val (.ref ad23), .val (.long w3), .second, .val (.ref ad38), .val (.long w4), .second, .val (.ref ad60), .val (.long w5), .second, .unset, .unset, .unset] [(.long w3), (.long w2)])) _
    refine XT.lcmp X80.here hx rfl (hb hby at_83) rfl ?_
    show Steps p.tables e below (T80.setTop (mkF m 84 #[.val (.long p1), .second, .val (.long p2), .second, .val (.ref ad12), .val (.long w1), .second, .val (.long w2), .second, .val (.ref ad23), .val (.long w3), .second, .val (.ref ad38), .val (.long w4), .second, .val (.ref ad60), .val (.long w5), .second, .unset, .unset, .unset] [(.int (XT.cmpL w2 w3))])) _
    exact k
  obtain ⟨w6, qw6⟩ : ∃ z : Int32, z = (if w2 = w3 then (1 : Int32) else (0 : Int32)) := ⟨_, rfl⟩
  refine OwnWp.step (U' := T80.setTop (mkF m 92 #[.val (.long p1), .second, .val (.long p2), .second, .val (.ref ad12), .val (.long w1), .second, .val (.long w2), .second, .val (.ref ad23), .val (.long w3), .second, .val (.ref ad38), .val (.long w4), .second, .val (.ref ad60), .val (.long w5), .second, .unset, .unset, .unset] [(.int w6)])) (fun t k => ?_) ?_
  · show Steps p.tables e below (T80.setTop (mkF m 84 #[.val (.long p1), .second, .val (.long p2), .second, .val (.ref ad12), .val (.long w1), .second, .val (.long w2), .second, .val (.ref ad23), .val (.long w3), .second, .val (.ref ad38), .val (.long w4), .second, .val (.ref ad60), .val (.long w5), .second, .unset, .unset, .unset] [(.int (XT.cmpL w2 w3))])) _
    by_cases c84_89 : w2 = w3
    · refine XS.ifNo X80.here hx rfl (hb hby at_84) rfl (XT.ll_ne_f c84_89) ?_
      show Steps p.tables e below (T80.setTop (mkF m 87 #[.val (.long p1), .second, .val (.long p2), .second, .val (.ref ad12), .val (.long w1), .second, .val (.long w2), .second, .val (.ref ad23), .val (.long w3), .second, .val (.ref ad38), .val (.long w4), .second, .val (.ref ad60), .val (.long w5), .second, .unset, .unset, .unset] [])) _
      refine XT.iconstV X80.here hx rfl (1 : Int32) (hb hby at_87) rfl ?_
      show Steps p.tables e below (T80.setTop (mkF m 88 #[.val (.long p1), .second, .val (.long p2), .second, .val (.ref ad12), .val (.long w1), .second, .val (.long w2), .second, .val (.ref ad23), .val (.long w3), .second, .val (.ref ad38), .val (.long w4), .second, .val (.ref ad60), .val (.long w5), .second, .unset, .unset, .unset] [(.int (1 : Int32))])) _
      refine XS.goto X80.here hx rfl (pc0 := 88) (pc' := 92) rfl (hb hby at_88) (by decide) (by decide) ?_
      show Steps p.tables e below (T80.setTop (mkF m 92 #[.val (.long p1), .second, .val (.long p2), .second, .val (.ref ad12), .val (.long w1), .second, .val (.long w2), .second, .val (.ref ad23), .val (.long w3), .second, .val (.ref ad38), .val (.long w4), .second, .val (.ref ad60), .val (.long w5), .second, .unset, .unset, .unset] [(.int (1 : Int32))])) _
      rw [show w6 = (1 : Int32) from by rw [qw6, if_pos c84_89]] at k
      exact k
    · refine XS.ifYes X80.here hx rfl (pc0 := 84) (pc' := 91) rfl (hb hby at_84) rfl (XT.ll_ne_t c84_89) (by decide) (by decide) ?_
      show Steps p.tables e below (T80.setTop (mkF m 91 #[.val (.long p1), .second, .val (.long p2), .second, .val (.ref ad12), .val (.long w1), .second, .val (.long w2), .second, .val (.ref ad23), .val (.long w3), .second, .val (.ref ad38), .val (.long w4), .second, .val (.ref ad60), .val (.long w5), .second, .unset, .unset, .unset] [])) _
      refine XT.iconstV X80.here hx rfl (0 : Int32) (hb hby at_91) rfl ?_
      show Steps p.tables e below (T80.setTop (mkF m 92 #[.val (.long p1), .second, .val (.long p2), .second, .val (.ref ad12), .val (.long w1), .second, .val (.long w2), .second, .val (.ref ad23), .val (.long w3), .second, .val (.ref ad38), .val (.long w4), .second, .val (.ref ad60), .val (.long w5), .second, .unset, .unset, .unset] [(.int (0 : Int32))])) _
      rw [show w6 = (0 : Int32) from by rw [qw6, if_neg c84_89]] at k
      exact k
  refine OwnWp.step (U' := T80.setTop (mkF m 97 #[.val (.long p1), .second, .val (.long p2), .second, .val (.ref ad12), .val (.long w1), .second, .val (.long w2), .second, .val (.ref ad23), .val (.long w3), .second, .val (.ref ad38), .val (.long w4), .second, .val (.ref ad60), .val (.long w5), .second, .val (.int w6), .unset, .unset] [(.int (XT.cmpL p1 p2))])) (fun t k => ?_) ?_
  · show Steps p.tables e below (T80.setTop (mkF m 92 #[.val (.long p1), .second, .val (.long p2), .second, .val (.ref ad12), .val (.long w1), .second, .val (.long w2), .second, .val (.ref ad23), .val (.long w3), .second, .val (.ref ad38), .val (.long w4), .second, .val (.ref ad60), .val (.long w5), .second, .unset, .unset, .unset] [(.int w6)])) _
    refine XS.istore X80.here hx rfl (hb hby at_92) rfl (l' := #[.val (.long p1), .second, .val (.long p2), .second, .val (.ref ad12), .val (.long w1), .second, .val (.long w2), .second, .val (.ref ad23), .val (.long w3), .second, .val (.ref ad38), .val (.long w4), .second, .val (.ref ad60), .val (.long w5), .second, .val (.int w6), .unset, .unset]) rfl ?_
    show Steps p.tables e below (T80.setTop (mkF m 94 #[.val (.long p1), .second, .val (.long p2), .second, .val (.ref ad12), .val (.long w1), .second, .val (.long w2), .second, .val (.ref ad23), .val (.long w3), .second, .val (.ref ad38), .val (.long w4), .second, .val (.ref ad60), .val (.long w5), .second, .val (.int w6), .unset, .unset] [])) _
    refine XT.lloadN X80.here hx rfl (hb hby at_94) rfl ?_
    show Steps p.tables e below (T80.setTop (mkF m 95 #[.val (.long p1), .second, .val (.long p2), .second, .val (.ref ad12), .val (.long w1), .second, .val (.long w2), .second, .val (.ref ad23), .val (.long w3), .second, .val (.ref ad38), .val (.long w4), .second, .val (.ref ad60), .val (.long w5), .second, .val (.int w6), .unset, .unset] [(.long p1)])) _
    refine XT.lloadN X80.here hx rfl (hb hby at_95) rfl ?_
    show Steps p.tables e below (T80.setTop (mkF m 96 #[.val (.long p1), .second, .val (.long p2), .second, .val (.ref ad12), .val (.long w1), .second, .val (.long w2), .second, .val (.ref ad23), .val (.long w3), .second, .val (.ref ad38), .val (.long w4), .second, .val (.ref ad60), .val (.long w5), .second, .val (.int w6), .unset, .unset] [(.long p2), (.long p1)])) _
    refine XT.lcmp X80.here hx rfl (hb hby at_96) rfl ?_
    show Steps p.tables e below (T80.setTop (mkF m 97 #[.val (.long p1), .second, .val (.long p2), .second, .val (.ref ad12), .val (.long w1), .second, .val (.long w2), .second, .val (.ref ad23), .val (.long w3), .second, .val (.ref ad38), .val (.long w4), .second, .val (.ref ad60), .val (.long w5), .second, .val (.int w6), .unset, .unset] [(.int (XT.cmpL p1 p2))])) _
    exact k
  obtain ⟨w7, qw7⟩ : ∃ z : Int32, z = (if p1 = p2 then (1 : Int32) else (0 : Int32)) := ⟨_, rfl⟩
  refine OwnWp.step (U' := T80.setTop (mkF m 105 #[.val (.long p1), .second, .val (.long p2), .second, .val (.ref ad12), .val (.long w1), .second, .val (.long w2), .second, .val (.ref ad23), .val (.long w3), .second, .val (.ref ad38), .val (.long w4), .second, .val (.ref ad60), .val (.long w5), .second, .val (.int w6), .unset, .unset] [(.int w7)])) (fun t k => ?_) ?_
  · show Steps p.tables e below (T80.setTop (mkF m 97 #[.val (.long p1), .second, .val (.long p2), .second, .val (.ref ad12), .val (.long w1), .second, .val (.long w2), .second, .val (.ref ad23), .val (.long w3), .second, .val (.ref ad38), .val (.long w4), .second, .val (.ref ad60), .val (.long w5), .second, .val (.int w6), .unset, .unset] [(.int (XT.cmpL p1 p2))])) _
    by_cases c97_90 : p1 = p2
    · refine XS.ifNo X80.here hx rfl (hb hby at_97) rfl (XT.ll_ne_f c97_90) ?_
      show Steps p.tables e below (T80.setTop (mkF m 100 #[.val (.long p1), .second, .val (.long p2), .second, .val (.ref ad12), .val (.long w1), .second, .val (.long w2), .second, .val (.ref ad23), .val (.long w3), .second, .val (.ref ad38), .val (.long w4), .second, .val (.ref ad60), .val (.long w5), .second, .val (.int w6), .unset, .unset] [])) _
      refine XT.iconstV X80.here hx rfl (1 : Int32) (hb hby at_100) rfl ?_
      show Steps p.tables e below (T80.setTop (mkF m 101 #[.val (.long p1), .second, .val (.long p2), .second, .val (.ref ad12), .val (.long w1), .second, .val (.long w2), .second, .val (.ref ad23), .val (.long w3), .second, .val (.ref ad38), .val (.long w4), .second, .val (.ref ad60), .val (.long w5), .second, .val (.int w6), .unset, .unset] [(.int (1 : Int32))])) _
      refine XS.goto X80.here hx rfl (pc0 := 101) (pc' := 105) rfl (hb hby at_101) (by decide) (by decide) ?_
      show Steps p.tables e below (T80.setTop (mkF m 105 #[.val (.long p1), .second, .val (.long p2), .second, .val (.ref ad12), .val (.long w1), .second, .val (.long w2), .second, .val (.ref ad23), .val (.long w3), .second, .val (.ref ad38), .val (.long w4), .second, .val (.ref ad60), .val (.long w5), .second, .val (.int w6), .unset, .unset] [(.int (1 : Int32))])) _
      rw [show w7 = (1 : Int32) from by rw [qw7, if_pos c97_90]] at k
      exact k
    · refine XS.ifYes X80.here hx rfl (pc0 := 97) (pc' := 104) rfl (hb hby at_97) rfl (XT.ll_ne_t c97_90) (by decide) (by decide) ?_
      show Steps p.tables e below (T80.setTop (mkF m 104 #[.val (.long p1), .second, .val (.long p2), .second, .val (.ref ad12), .val (.long w1), .second, .val (.long w2), .second, .val (.ref ad23), .val (.long w3), .second, .val (.ref ad38), .val (.long w4), .second, .val (.ref ad60), .val (.long w5), .second, .val (.int w6), .unset, .unset] [])) _
      refine XT.iconstV X80.here hx rfl (0 : Int32) (hb hby at_104) rfl ?_
      show Steps p.tables e below (T80.setTop (mkF m 105 #[.val (.long p1), .second, .val (.long p2), .second, .val (.ref ad12), .val (.long w1), .second, .val (.long w2), .second, .val (.ref ad23), .val (.long w3), .second, .val (.ref ad38), .val (.long w4), .second, .val (.ref ad60), .val (.long w5), .second, .val (.int w6), .unset, .unset] [(.int (0 : Int32))])) _
      rw [show w7 = (0 : Int32) from by rw [qw7, if_neg c97_90]] at k
      exact k
  refine OwnWp.step (U' := T80.setTop (mkF m 110 #[.val (.long p1), .second, .val (.long p2), .second, .val (.ref ad12), .val (.long w1), .second, .val (.long w2), .second, .val (.ref ad23), .val (.long w3), .second, .val (.ref ad38), .val (.long w4), .second, .val (.ref ad60), .val (.long w5), .second, .val (.int w6), .unset, .unset] [(.int (XT.cmpL w1 w4)), (.int w7)])) (fun t k => ?_) ?_
  · show Steps p.tables e below (T80.setTop (mkF m 105 #[.val (.long p1), .second, .val (.long p2), .second, .val (.ref ad12), .val (.long w1), .second, .val (.long w2), .second, .val (.ref ad23), .val (.long w3), .second, .val (.ref ad38), .val (.long w4), .second, .val (.ref ad60), .val (.long w5), .second, .val (.int w6), .unset, .unset] [(.int w7)])) _
    refine XT.lload X80.here hx rfl (hb hby at_105) rfl ?_
    show Steps p.tables e below (T80.setTop (mkF m 107 #[.val (.long p1), .second, .val (.long p2), .second, .val (.ref ad12), .val (.long w1), .second, .val (.long w2), .second, .val (.ref ad23), .val (.long w3), .second, .val (.ref ad38), .val (.long w4), .second, .val (.ref ad60), .val (.long w5), .second, .val (.int w6), .unset, .unset] [(.long w1), (.int w7)])) _
    refine XT.lload X80.here hx rfl (hb hby at_107) rfl ?_
    show Steps p.tables e below (T80.setTop (mkF m 109 #[.val (.long p1), .second, .val (.long p2), .second, .val (.ref ad12), .val (.long w1), .second, .val (.long w2), .second, .val (.ref ad23), .val (.long w3), .second, .val (.ref ad38), .val (.long w4), .second, .val (.ref ad60), .val (.long w5), .second, .val (.int w6), .unset, .unset] [(.long w4), (.long w1), (.int w7)])) _
    refine XT.lcmp X80.here hx rfl (hb hby at_109) rfl ?_
    show Steps p.tables e below (T80.setTop (mkF m 110 #[.val (.long p1), .second, .val (.long p2), .second, .val (.ref ad12), .val (.long w1), .second, .val (.long w2), .second, .val (.ref ad23), .val (.long w3), .second, .val (.ref ad38), .val (.long w4), .second, .val (.ref ad60), .val (.long w5), .second, .val (.int w6), .unset, .unset] [(.int (XT.cmpL w1 w4)), (.int w7)])) _
    exact k
  obtain ⟨w8, qw8⟩ : ∃ z : Int32, z = (if w1 = w4 then (1 : Int32) else (0 : Int32)) := ⟨_, rfl⟩
  refine OwnWp.step (U' := T80.setTop (mkF m 118 #[.val (.long p1), .second, .val (.long p2), .second, .val (.ref ad12), .val (.long w1), .second, .val (.long w2), .second, .val (.ref ad23), .val (.long w3), .second, .val (.ref ad38), .val (.long w4), .second, .val (.ref ad60), .val (.long w5), .second, .val (.int w6), .unset, .unset] [(.int w8), (.int w7)])) (fun t k => ?_) ?_
  · show Steps p.tables e below (T80.setTop (mkF m 110 #[.val (.long p1), .second, .val (.long p2), .second, .val (.ref ad12), .val (.long w1), .second, .val (.long w2), .second, .val (.ref ad23), .val (.long w3), .second, .val (.ref ad38), .val (.long w4), .second, .val (.ref ad60), .val (.long w5), .second, .val (.int w6), .unset, .unset] [(.int (XT.cmpL w1 w4)), (.int w7)])) _
    by_cases c110_91 : w1 = w4
    · refine XS.ifNo X80.here hx rfl (hb hby at_110) rfl (XT.ll_ne_f c110_91) ?_
      show Steps p.tables e below (T80.setTop (mkF m 113 #[.val (.long p1), .second, .val (.long p2), .second, .val (.ref ad12), .val (.long w1), .second, .val (.long w2), .second, .val (.ref ad23), .val (.long w3), .second, .val (.ref ad38), .val (.long w4), .second, .val (.ref ad60), .val (.long w5), .second, .val (.int w6), .unset, .unset] [(.int w7)])) _
      refine XT.iconstV X80.here hx rfl (1 : Int32) (hb hby at_113) rfl ?_
      show Steps p.tables e below (T80.setTop (mkF m 114 #[.val (.long p1), .second, .val (.long p2), .second, .val (.ref ad12), .val (.long w1), .second, .val (.long w2), .second, .val (.ref ad23), .val (.long w3), .second, .val (.ref ad38), .val (.long w4), .second, .val (.ref ad60), .val (.long w5), .second, .val (.int w6), .unset, .unset] [(.int (1 : Int32)), (.int w7)])) _
      refine XS.goto X80.here hx rfl (pc0 := 114) (pc' := 118) rfl (hb hby at_114) (by decide) (by decide) ?_
      show Steps p.tables e below (T80.setTop (mkF m 118 #[.val (.long p1), .second, .val (.long p2), .second, .val (.ref ad12), .val (.long w1), .second, .val (.long w2), .second, .val (.ref ad23), .val (.long w3), .second, .val (.ref ad38), .val (.long w4), .second, .val (.ref ad60), .val (.long w5), .second, .val (.int w6), .unset, .unset] [(.int (1 : Int32)), (.int w7)])) _
      rw [show w8 = (1 : Int32) from by rw [qw8, if_pos c110_91]] at k
      exact k
    · refine XS.ifYes X80.here hx rfl (pc0 := 110) (pc' := 117) rfl (hb hby at_110) rfl (XT.ll_ne_t c110_91) (by decide) (by decide) ?_
      show Steps p.tables e below (T80.setTop (mkF m 117 #[.val (.long p1), .second, .val (.long p2), .second, .val (.ref ad12), .val (.long w1), .second, .val (.long w2), .second, .val (.ref ad23), .val (.long w3), .second, .val (.ref ad38), .val (.long w4), .second, .val (.ref ad60), .val (.long w5), .second, .val (.int w6), .unset, .unset] [(.int w7)])) _
      refine XT.iconstV X80.here hx rfl (0 : Int32) (hb hby at_117) rfl ?_
      show Steps p.tables e below (T80.setTop (mkF m 118 #[.val (.long p1), .second, .val (.long p2), .second, .val (.ref ad12), .val (.long w1), .second, .val (.long w2), .second, .val (.ref ad23), .val (.long w3), .second, .val (.ref ad38), .val (.long w4), .second, .val (.ref ad60), .val (.long w5), .second, .val (.int w6), .unset, .unset] [(.int (0 : Int32)), (.int w7)])) _
      rw [show w8 = (0 : Int32) from by rw [qw8, if_neg c110_91]] at k
      exact k
  obtain ⟨w9, qw9⟩ : ∃ z : Int32, z = (if w7 = w8 then (1 : Int32) else (0 : Int32)) := ⟨_, rfl⟩
  refine OwnWp.step (U' := T80.setTop (mkF m 126 #[.val (.long p1), .second, .val (.long p2), .second, .val (.ref ad12), .val (.long w1), .second, .val (.long w2), .second, .val (.ref ad23), .val (.long w3), .second, .val (.ref ad38), .val (.long w4), .second, .val (.ref ad60), .val (.long w5), .second, .val (.int w6), .unset, .unset] [(.int w9)])) (fun t k => ?_) ?_
  · show Steps p.tables e below (T80.setTop (mkF m 118 #[.val (.long p1), .second, .val (.long p2), .second, .val (.ref ad12), .val (.long w1), .second, .val (.long w2), .second, .val (.ref ad23), .val (.long w3), .second, .val (.ref ad38), .val (.long w4), .second, .val (.ref ad60), .val (.long w5), .second, .val (.int w6), .unset, .unset] [(.int w8), (.int w7)])) _
    by_cases c118_92 : w7 = w8
    · refine XS.icmpNo X80.here hx rfl (hb hby at_118) rfl (XT.ii_ne_f c118_92) ?_
      show Steps p.tables e below (T80.setTop (mkF m 121 #[.val (.long p1), .second, .val (.long p2), .second, .val (.ref ad12), .val (.long w1), .second, .val (.long w2), .second, .val (.ref ad23), .val (.long w3), .second, .val (.ref ad38), .val (.long w4), .second, .val (.ref ad60), .val (.long w5), .second, .val (.int w6), .unset, .unset] [])) _
      refine XT.iconstV X80.here hx rfl (1 : Int32) (hb hby at_121) rfl ?_
      show Steps p.tables e below (T80.setTop (mkF m 122 #[.val (.long p1), .second, .val (.long p2), .second, .val (.ref ad12), .val (.long w1), .second, .val (.long w2), .second, .val (.ref ad23), .val (.long w3), .second, .val (.ref ad38), .val (.long w4), .second, .val (.ref ad60), .val (.long w5), .second, .val (.int w6), .unset, .unset] [(.int (1 : Int32))])) _
      refine XS.goto X80.here hx rfl (pc0 := 122) (pc' := 126) rfl (hb hby at_122) (by decide) (by decide) ?_
      show Steps p.tables e below (T80.setTop (mkF m 126 #[.val (.long p1), .second, .val (.long p2), .second, .val (.ref ad12), .val (.long w1), .second, .val (.long w2), .second, .val (.ref ad23), .val (.long w3), .second, .val (.ref ad38), .val (.long w4), .second, .val (.ref ad60), .val (.long w5), .second, .val (.int w6), .unset, .unset] [(.int (1 : Int32))])) _
      rw [show w9 = (1 : Int32) from by rw [qw9, if_pos c118_92]] at k
      exact k
    · refine XS.icmpYes X80.here hx rfl (pc0 := 118) (pc' := 125) rfl (hb hby at_118) rfl (XT.ii_ne_t c118_92) (by decide) (by decide) ?_
      show Steps p.tables e below (T80.setTop (mkF m 125 #[.val (.long p1), .second, .val (.long p2), .second, .val (.ref ad12), .val (.long w1), .second, .val (.long w2), .second, .val (.ref ad23), .val (.long w3), .second, .val (.ref ad38), .val (.long w4), .second, .val (.ref ad60), .val (.long w5), .second, .val (.int w6), .unset, .unset] [])) _
      refine XT.iconstV X80.here hx rfl (0 : Int32) (hb hby at_125) rfl ?_
      show Steps p.tables e below (T80.setTop (mkF m 126 #[.val (.long p1), .second, .val (.long p2), .second, .val (.ref ad12), .val (.long w1), .second, .val (.long w2), .second, .val (.ref ad23), .val (.long w3), .second, .val (.ref ad38), .val (.long w4), .second, .val (.ref ad60), .val (.long w5), .second, .val (.int w6), .unset, .unset] [(.int (0 : Int32))])) _
      rw [show w9 = (0 : Int32) from by rw [qw9, if_neg c118_92]] at k
      exact k
  refine OwnWp.step (U' := T80.setTop (mkF m 134 #[.val (.long p1), .second, .val (.long p2), .second, .val (.ref ad12), .val (.long w1), .second, .val (.long w2), .second, .val (.ref ad23), .val (.long w3), .second, .val (.ref ad38), .val (.long w4), .second, .val (.ref ad60), .val (.long w5), .second, .val (.int w6), .val (.int w9), .unset] [(.int (XT.cmpL w5 ((-2152535657050944081) : Int64)))])) (fun t k => ?_) ?_
  · show Steps p.tables e below (T80.setTop (mkF m 126 #[.val (.long p1), .second, .val (.long p2), .second, .val (.ref ad12), .val (.long w1), .second, .val (.long w2), .second, .val (.ref ad23), .val (.long w3), .second, .val (.ref ad38), .val (.long w4), .second, .val (.ref ad60), .val (.long w5), .second, .val (.int w6), .unset, .unset] [(.int w9)])) _
    refine XS.istore X80.here hx rfl (hb hby at_126) rfl (l' := #[.val (.long p1), .second, .val (.long p2), .second, .val (.ref ad12), .val (.long w1), .second, .val (.long w2), .second, .val (.ref ad23), .val (.long w3), .second, .val (.ref ad38), .val (.long w4), .second, .val (.ref ad60), .val (.long w5), .second, .val (.int w6), .val (.int w9), .unset]) rfl ?_
    show Steps p.tables e below (T80.setTop (mkF m 128 #[.val (.long p1), .second, .val (.long p2), .second, .val (.ref ad12), .val (.long w1), .second, .val (.long w2), .second, .val (.ref ad23), .val (.long w3), .second, .val (.ref ad38), .val (.long w4), .second, .val (.ref ad60), .val (.long w5), .second, .val (.int w6), .val (.int w9), .unset] [])) _
    refine XT.lload X80.here hx rfl (hb hby at_128) rfl ?_
    show Steps p.tables e below (T80.setTop (mkF m 130 #[.val (.long p1), .second, .val (.long p2), .second, .val (.ref ad12), .val (.long w1), .second, .val (.long w2), .second, .val (.ref ad23), .val (.long w3), .second, .val (.ref ad38), .val (.long w4), .second, .val (.ref ad60), .val (.long w5), .second, .val (.int w6), .val (.int w9), .unset] [(.long w5)])) _
    refine X80.ldc2J hx hown (mvT hZ (hw _ (List.mem_of_getElem? (i := 20) rfl))) rfl (hb hby at_130) ?_
    show Steps p.tables e below (T80.setTop (mkF m 133 #[.val (.long p1), .second, .val (.long p2), .second, .val (.ref ad12), .val (.long w1), .second, .val (.long w2), .second, .val (.ref ad23), .val (.long w3), .second, .val (.ref ad38), .val (.long w4), .second, .val (.ref ad60), .val (.long w5), .second, .val (.int w6), .val (.int w9), .unset] [(.long ((-2152535657050944081) : Int64)), (.long w5)])) _
    refine XT.lcmp X80.here hx rfl (hb hby at_133) rfl ?_
    show Steps p.tables e below (T80.setTop (mkF m 134 #[.val (.long p1), .second, .val (.long p2), .second, .val (.ref ad12), .val (.long w1), .second, .val (.long w2), .second, .val (.ref ad23), .val (.long w3), .second, .val (.ref ad38), .val (.long w4), .second, .val (.ref ad60), .val (.long w5), .second, .val (.int w6), .val (.int w9), .unset] [(.int (XT.cmpL w5 ((-2152535657050944081) : Int64)))])) _
    exact k
  obtain ⟨w10, qw10⟩ : ∃ z : Int32, z = (if w5 = ((-2152535657050944081) : Int64) then (1 : Int32) else (0 : Int32)) := ⟨_, rfl⟩
  refine OwnWp.step (U' := T80.setTop (mkF m 142 #[.val (.long p1), .second, .val (.long p2), .second, .val (.ref ad12), .val (.long w1), .second, .val (.long w2), .second, .val (.ref ad23), .val (.long w3), .second, .val (.ref ad38), .val (.long w4), .second, .val (.ref ad60), .val (.long w5), .second, .val (.int w6), .val (.int w9), .unset] [(.int w10)])) (fun t k => ?_) ?_
  · show Steps p.tables e below (T80.setTop (mkF m 134 #[.val (.long p1), .second, .val (.long p2), .second, .val (.ref ad12), .val (.long w1), .second, .val (.long w2), .second, .val (.ref ad23), .val (.long w3), .second, .val (.ref ad38), .val (.long w4), .second, .val (.ref ad60), .val (.long w5), .second, .val (.int w6), .val (.int w9), .unset] [(.int (XT.cmpL w5 ((-2152535657050944081) : Int64)))])) _
    by_cases c134_93 : w5 = ((-2152535657050944081) : Int64)
    · refine XS.ifNo X80.here hx rfl (hb hby at_134) rfl (XT.ll_ne_f c134_93) ?_
      show Steps p.tables e below (T80.setTop (mkF m 137 #[.val (.long p1), .second, .val (.long p2), .second, .val (.ref ad12), .val (.long w1), .second, .val (.long w2), .second, .val (.ref ad23), .val (.long w3), .second, .val (.ref ad38), .val (.long w4), .second, .val (.ref ad60), .val (.long w5), .second, .val (.int w6), .val (.int w9), .unset] [])) _
      refine XT.iconstV X80.here hx rfl (1 : Int32) (hb hby at_137) rfl ?_
      show Steps p.tables e below (T80.setTop (mkF m 138 #[.val (.long p1), .second, .val (.long p2), .second, .val (.ref ad12), .val (.long w1), .second, .val (.long w2), .second, .val (.ref ad23), .val (.long w3), .second, .val (.ref ad38), .val (.long w4), .second, .val (.ref ad60), .val (.long w5), .second, .val (.int w6), .val (.int w9), .unset] [(.int (1 : Int32))])) _
      refine XS.goto X80.here hx rfl (pc0 := 138) (pc' := 142) rfl (hb hby at_138) (by decide) (by decide) ?_
      show Steps p.tables e below (T80.setTop (mkF m 142 #[.val (.long p1), .second, .val (.long p2), .second, .val (.ref ad12), .val (.long w1), .second, .val (.long w2), .second, .val (.ref ad23), .val (.long w3), .second, .val (.ref ad38), .val (.long w4), .second, .val (.ref ad60), .val (.long w5), .second, .val (.int w6), .val (.int w9), .unset] [(.int (1 : Int32))])) _
      rw [show w10 = (1 : Int32) from by rw [qw10, if_pos c134_93]] at k
      exact k
    · refine XS.ifYes X80.here hx rfl (pc0 := 134) (pc' := 141) rfl (hb hby at_134) rfl (XT.ll_ne_t c134_93) (by decide) (by decide) ?_
      show Steps p.tables e below (T80.setTop (mkF m 141 #[.val (.long p1), .second, .val (.long p2), .second, .val (.ref ad12), .val (.long w1), .second, .val (.long w2), .second, .val (.ref ad23), .val (.long w3), .second, .val (.ref ad38), .val (.long w4), .second, .val (.ref ad60), .val (.long w5), .second, .val (.int w6), .val (.int w9), .unset] [])) _
      refine XT.iconstV X80.here hx rfl (0 : Int32) (hb hby at_141) rfl ?_
      show Steps p.tables e below (T80.setTop (mkF m 142 #[.val (.long p1), .second, .val (.long p2), .second, .val (.ref ad12), .val (.long w1), .second, .val (.long w2), .second, .val (.ref ad23), .val (.long w3), .second, .val (.ref ad38), .val (.long w4), .second, .val (.ref ad60), .val (.long w5), .second, .val (.int w6), .val (.int w9), .unset] [(.int (0 : Int32))])) _
      rw [show w10 = (0 : Int32) from by rw [qw10, if_neg c134_93]] at k
      exact k
  refine OwnWp.step (U' := T80.setTop (mkF m 146 #[.val (.long p1), .second, .val (.long p2), .second, .val (.ref ad12), .val (.long w1), .second, .val (.long w2), .second, .val (.ref ad23), .val (.long w3), .second, .val (.ref ad38), .val (.long w4), .second, .val (.ref ad60), .val (.long w5), .second, .val (.int w6), .val (.int w9), .val (.int w10)] [(.int w6)])) (fun t k => ?_) ?_
  · show Steps p.tables e below (T80.setTop (mkF m 142 #[.val (.long p1), .second, .val (.long p2), .second, .val (.ref ad12), .val (.long w1), .second, .val (.long w2), .second, .val (.ref ad23), .val (.long w3), .second, .val (.ref ad38), .val (.long w4), .second, .val (.ref ad60), .val (.long w5), .second, .val (.int w6), .val (.int w9), .unset] [(.int w10)])) _
    refine XS.istore X80.here hx rfl (hb hby at_142) rfl (l' := #[.val (.long p1), .second, .val (.long p2), .second, .val (.ref ad12), .val (.long w1), .second, .val (.long w2), .second, .val (.ref ad23), .val (.long w3), .second, .val (.ref ad38), .val (.long w4), .second, .val (.ref ad60), .val (.long w5), .second, .val (.int w6), .val (.int w9), .val (.int w10)]) rfl ?_
    show Steps p.tables e below (T80.setTop (mkF m 144 #[.val (.long p1), .second, .val (.long p2), .second, .val (.ref ad12), .val (.long w1), .second, .val (.long w2), .second, .val (.ref ad23), .val (.long w3), .second, .val (.ref ad38), .val (.long w4), .second, .val (.ref ad60), .val (.long w5), .second, .val (.int w6), .val (.int w9), .val (.int w10)] [])) _
    refine XS.iload X80.here hx rfl (hb hby at_144) rfl ?_
    show Steps p.tables e below (T80.setTop (mkF m 146 #[.val (.long p1), .second, .val (.long p2), .second, .val (.ref ad12), .val (.long w1), .second, .val (.long w2), .second, .val (.ref ad23), .val (.long w3), .second, .val (.ref ad38), .val (.long w4), .second, .val (.ref ad60), .val (.long w5), .second, .val (.int w6), .val (.int w9), .val (.int w10)] [(.int w6)])) _
    exact k
  obtain ⟨w11, qw11⟩ : ∃ z : Int32, z = (if w6 = (0 : Int32) then (0 : Int32) else (if w9 = (0 : Int32) then (0 : Int32) else (if w10 = (0 : Int32) then (0 : Int32) else (1 : Int32)))) := ⟨_, rfl⟩
  refine OwnWp.step (U' := T80.setTop (mkF m 164 #[.val (.long p1), .second, .val (.long p2), .second, .val (.ref ad12), .val (.long w1), .second, .val (.long w2), .second, .val (.ref ad23), .val (.long w3), .second, .val (.ref ad38), .val (.long w4), .second, .val (.ref ad60), .val (.long w5), .second, .val (.int w6), .val (.int w9), .val (.int w10)] [(.int w11)])) (fun t k => ?_) ?_
  · show Steps p.tables e below (T80.setTop (mkF m 146 #[.val (.long p1), .second, .val (.long p2), .second, .val (.ref ad12), .val (.long w1), .second, .val (.long w2), .second, .val (.ref ad23), .val (.long w3), .second, .val (.ref ad38), .val (.long w4), .second, .val (.ref ad60), .val (.long w5), .second, .val (.int w6), .val (.int w9), .val (.int w10)] [(.int w6)])) _
    by_cases c146_94 : w6 = (0 : Int32)
    · refine XS.ifYes X80.here hx rfl (pc0 := 146) (pc' := 163) rfl (hb hby at_146) rfl (XT.i0_eq_t c146_94) (by decide) (by decide) ?_
      show Steps p.tables e below (T80.setTop (mkF m 163 #[.val (.long p1), .second, .val (.long p2), .second, .val (.ref ad12), .val (.long w1), .second, .val (.long w2), .second, .val (.ref ad23), .val (.long w3), .second, .val (.ref ad38), .val (.long w4), .second, .val (.ref ad60), .val (.long w5), .second, .val (.int w6), .val (.int w9), .val (.int w10)] [])) _
      refine XT.iconstV X80.here hx rfl (0 : Int32) (hb hby at_163) rfl ?_
      show Steps p.tables e below (T80.setTop (mkF m 164 #[.val (.long p1), .second, .val (.long p2), .second, .val (.ref ad12), .val (.long w1), .second, .val (.long w2), .second, .val (.ref ad23), .val (.long w3), .second, .val (.ref ad38), .val (.long w4), .second, .val (.ref ad60), .val (.long w5), .second, .val (.int w6), .val (.int w9), .val (.int w10)] [(.int (0 : Int32))])) _
      rw [show w11 = (0 : Int32) from by rw [qw11, if_pos c146_94]] at k
      exact k
    · refine XS.ifNo X80.here hx rfl (hb hby at_146) rfl (XT.i0_eq_f c146_94) ?_
      show Steps p.tables e below (T80.setTop (mkF m 149 #[.val (.long p1), .second, .val (.long p2), .second, .val (.ref ad12), .val (.long w1), .second, .val (.long w2), .second, .val (.ref ad23), .val (.long w3), .second, .val (.ref ad38), .val (.long w4), .second, .val (.ref ad60), .val (.long w5), .second, .val (.int w6), .val (.int w9), .val (.int w10)] [])) _
      refine XS.iload X80.here hx rfl (hb hby at_149) rfl ?_
      show Steps p.tables e below (T80.setTop (mkF m 151 #[.val (.long p1), .second, .val (.long p2), .second, .val (.ref ad12), .val (.long w1), .second, .val (.long w2), .second, .val (.ref ad23), .val (.long w3), .second, .val (.ref ad38), .val (.long w4), .second, .val (.ref ad60), .val (.long w5), .second, .val (.int w6), .val (.int w9), .val (.int w10)] [(.int w9)])) _
      by_cases c151_95 : w9 = (0 : Int32)
      · refine XS.ifYes X80.here hx rfl (pc0 := 151) (pc' := 163) rfl (hb hby at_151) rfl (XT.i0_eq_t c151_95) (by decide) (by decide) ?_
        show Steps p.tables e below (T80.setTop (mkF m 163 #[.val (.long p1), .second, .val (.long p2), .second, .val (.ref ad12), .val (.long w1), .second, .val (.long w2), .second, .val (.ref ad23), .val (.long w3), .second, .val (.ref ad38), .val (.long w4), .second, .val (.ref ad60), .val (.long w5), .second, .val (.int w6), .val (.int w9), .val (.int w10)] [])) _
        refine XT.iconstV X80.here hx rfl (0 : Int32) (hb hby at_163) rfl ?_
        show Steps p.tables e below (T80.setTop (mkF m 164 #[.val (.long p1), .second, .val (.long p2), .second, .val (.ref ad12), .val (.long w1), .second, .val (.long w2), .second, .val (.ref ad23), .val (.long w3), .second, .val (.ref ad38), .val (.long w4), .second, .val (.ref ad60), .val (.long w5), .second, .val (.int w6), .val (.int w9), .val (.int w10)] [(.int (0 : Int32))])) _
        rw [show w11 = (0 : Int32) from by rw [qw11, if_neg c146_94, if_pos c151_95]] at k
        exact k
      · refine XS.ifNo X80.here hx rfl (hb hby at_151) rfl (XT.i0_eq_f c151_95) ?_
        show Steps p.tables e below (T80.setTop (mkF m 154 #[.val (.long p1), .second, .val (.long p2), .second, .val (.ref ad12), .val (.long w1), .second, .val (.long w2), .second, .val (.ref ad23), .val (.long w3), .second, .val (.ref ad38), .val (.long w4), .second, .val (.ref ad60), .val (.long w5), .second, .val (.int w6), .val (.int w9), .val (.int w10)] [])) _
        refine XS.iload X80.here hx rfl (hb hby at_154) rfl ?_
        show Steps p.tables e below (T80.setTop (mkF m 156 #[.val (.long p1), .second, .val (.long p2), .second, .val (.ref ad12), .val (.long w1), .second, .val (.long w2), .second, .val (.ref ad23), .val (.long w3), .second, .val (.ref ad38), .val (.long w4), .second, .val (.ref ad60), .val (.long w5), .second, .val (.int w6), .val (.int w9), .val (.int w10)] [(.int w10)])) _
        by_cases c156_96 : w10 = (0 : Int32)
        · refine XS.ifYes X80.here hx rfl (pc0 := 156) (pc' := 163) rfl (hb hby at_156) rfl (XT.i0_eq_t c156_96) (by decide) (by decide) ?_
          show Steps p.tables e below (T80.setTop (mkF m 163 #[.val (.long p1), .second, .val (.long p2), .second, .val (.ref ad12), .val (.long w1), .second, .val (.long w2), .second, .val (.ref ad23), .val (.long w3), .second, .val (.ref ad38), .val (.long w4), .second, .val (.ref ad60), .val (.long w5), .second, .val (.int w6), .val (.int w9), .val (.int w10)] [])) _
          refine XT.iconstV X80.here hx rfl (0 : Int32) (hb hby at_163) rfl ?_
          show Steps p.tables e below (T80.setTop (mkF m 164 #[.val (.long p1), .second, .val (.long p2), .second, .val (.ref ad12), .val (.long w1), .second, .val (.long w2), .second, .val (.ref ad23), .val (.long w3), .second, .val (.ref ad38), .val (.long w4), .second, .val (.ref ad60), .val (.long w5), .second, .val (.int w6), .val (.int w9), .val (.int w10)] [(.int (0 : Int32))])) _
          rw [show w11 = (0 : Int32) from by rw [qw11, if_neg c146_94, if_neg c151_95, if_pos c156_96]] at k
          exact k
        · refine XS.ifNo X80.here hx rfl (hb hby at_156) rfl (XT.i0_eq_f c156_96) ?_
          show Steps p.tables e below (T80.setTop (mkF m 159 #[.val (.long p1), .second, .val (.long p2), .second, .val (.ref ad12), .val (.long w1), .second, .val (.long w2), .second, .val (.ref ad23), .val (.long w3), .second, .val (.ref ad38), .val (.long w4), .second, .val (.ref ad60), .val (.long w5), .second, .val (.int w6), .val (.int w9), .val (.int w10)] [])) _
          refine XT.iconstV X80.here hx rfl (1 : Int32) (hb hby at_159) rfl ?_
          show Steps p.tables e below (T80.setTop (mkF m 160 #[.val (.long p1), .second, .val (.long p2), .second, .val (.ref ad12), .val (.long w1), .second, .val (.long w2), .second, .val (.ref ad23), .val (.long w3), .second, .val (.ref ad38), .val (.long w4), .second, .val (.ref ad60), .val (.long w5), .second, .val (.int w6), .val (.int w9), .val (.int w10)] [(.int (1 : Int32))])) _
          refine XS.goto X80.here hx rfl (pc0 := 160) (pc' := 164) rfl (hb hby at_160) (by decide) (by decide) ?_
          show Steps p.tables e below (T80.setTop (mkF m 164 #[.val (.long p1), .second, .val (.long p2), .second, .val (.ref ad12), .val (.long w1), .second, .val (.long w2), .second, .val (.ref ad23), .val (.long w3), .second, .val (.ref ad38), .val (.long w4), .second, .val (.ref ad60), .val (.long w5), .second, .val (.int w6), .val (.int w9), .val (.int w10)] [(.int (1 : Int32))])) _
          rw [show w11 = (1 : Int32) from by rw [qw11, if_neg c146_94, if_neg c151_95, if_neg c156_96]] at k
          exact k
  have hfin := (own_law p1 p2 w1 qw1 w2 qw2 w3 qw3 w4 qw4 w5 qw5 w6 qw6 w7 qw7 w8 qw8 w9 qw9 w10 qw10 w11 qw11)
  refine OwnWp.retZ X80 hx hlk Bd.returns (hb hby at_164) (by decide) (by decide) (Or.inr hfin) ?_
  exact ⟨by rw [hfin], N80⟩
set_option maxRecDepth 65536 in
set_option maxHeartbeats 40000000 in
theorem comes_1 {Post : Tables → Env → Array Value → State → Outcome → State → Prop} (hpost : ∀ tb e args s v u, (limb_1_1.after args s (.returned v) u = true ∧ limb_1_2.after args s (.returned v) u = true ∧ True) → FrameEnd s (.returned v) u (Jvm.fieldLocs frame_1_writes args s ++ Jvm.arrayLocs frame_1_arrays args s ++ Jvm.staticLocs frame_1_statics s) 16 128 → Post tb e args s (.returned v) u) :
    ArmFor flags0 classFile x code maxLocals ret World_1 tables_1 room_1 Calls_1 rest_1 Pre_1 Post := by
  intro l hfl _ _ p e ha hc hk s m args below hf hA hF happ hP
  obtain ⟨hcalls, hrest, hpre⟩ := hP
  obtain ⟨-, -, -, hnamed, -, -, -, hat⟩ := (Spec.applies_iff hf).mp happ
  obtain ⟨hg, hn⟩ := and_e (Cond.before_iff.mp (show (Jvm.Cond.and given_1 narrow_1).before args s = true from hpre))
  obtain ⟨hcount, g0⟩ := and_e hg
  obtain ⟨w0, w1, rfl⟩ : ∃ w0 w1 : Value, args = #[w0, w1] := by
    have hs : args.size = 2 := by simpa [Cond.value, given_1] using hcount
    obtain ⟨L⟩ := args
    match L, hs with
    | [w0, w1], _ => exact ⟨w0, w1, rfl⟩
  have hw := fun d (hd : d ∈ tables_1) => atoms_spec (ws := Jvm.Cond.code x code maxLocals ret :: tables_1) hat d (List.mem_cons_of_mem _ hd)
  obtain ⟨u0, g1⟩ := and_e g0
  obtain ⟨i0, e0⟩ := isL_v u0
  obtain rfl : w0 = (.long i0) := Option.some.inj e0
  obtain ⟨i1, e1⟩ := isL_v g1
  obtain rfl : w1 = (.long i1) := Option.some.inj e1
  obtain ⟨n, o, h1, h2, h3, _, L, rfl, ⟨rfl, N⟩, hq⟩ := rm0 l s _ hw tables_1 i0 i1 s.heap s.heap.size (Nat.le_refl _) p e ha hc hk s m _ below hf ((Spec.applies_iff_loose hf).mp happ).1 ⟨rfl, State.Warmed39.refl s, rfl⟩ trivial
  refine ⟨n, _, h1, h2, h3, hpost _ _ _ _ _ _ ⟨Cond.after_iff.mpr rfl, Cond.after_iff.mpr (eq_i res_at (Term.int_eval (1)) rfl), trivial⟩ ⟨hq.1, hq.2.1, (hq.2.2.sift fun y hy => Or.inr (N y hy)).mono (by decide) (by decide)⟩⟩
theorem main_1_1 : Claimed_1_1 := comes_1 fun _ _ _ _ _ _ h hF => ⟨h.1, hF⟩
theorem main_1_2 : Claimed_1_2 := comes_1 fun _ _ _ _ _ _ h hF => ⟨h.2.1, hF⟩
end Jvm.Pilot.@@N@@
namespace Jvm.Pilot.@@N@@
open Jvm Jvm.ClassFile Sem Op Lib Jvm.Free Jvm.Stand Jvm.Pilot.@@N@@.Jvm.D
/-! MADE BY PROGRAM (witnessworld.py) out of the Statement's table words and the real class files: 9 classes; the members and pool entries that the words name. The judged class is class 1, her method 1. -/
namespace start1
open Jvm.ClassFile
def u (s : String) : CpInfo := .utf8 (stringToUtf16 s)
/-- a pool by its gaps: so many unusable entries, then the entry; so many at the end -/
def gap : Nat → List CpInfo → List CpInfo
  | 0, r => r
  | n + 1, r => .unusable :: gap n r
def poolList (es : List (Nat × CpInfo)) (last : Nat) : List CpInfo := es.foldr (fun e r => gap e.1 (e.2 :: r)) (gap last [])
def pool (es : List (Nat × CpInfo)) (last : Nat) : Array CpInfo := ⟨poolList es last⟩
def fileOf (pool : Array CpInfo) (this : Nat) (attrs : Array Attribute := #[]) (ms : Array MethodInfo := #[]) (fl : Nat := 33) (sup : Nat := 0) (ifs : Array Nat := #[]) (fds : Array FieldInfo := #[]) : ClassFile where
  minorVersion := 0
  majorVersion := 65
  constantPool := pool
  accessFlags := fl
  thisClass := this
  superClass := sup
  interfaces := ifs
  fields := fds
  methods := ms
  attributes := attrs
def plain (name : String) (sup : Option ClassId) : Class where
  name := name
  kind := .ordinary
  loader := none
  accessFlags := 33
  super := sup
  interfaces := #[]
  cf := none
  fields := #[]
  methods := #[]
  instanceTypes := #[]
  staticTypes := #[]
  resolved := #[]
  callSites := []
  init := .initialized
  statics := none
  mirror := none

def pool0 : Array CpInfo := pool [(5, u "<init>"), (0, u "()V"), (1, .class_ 10), (1, u "java/lang/Object")] 113

def k0c0 : Code := { maxStack := 0, maxLocals := 1, code := object_method_1_code, exceptionTable := #[], attributes := #[] }
def k0m0 : Method := { name := "<init>", desc := "()V", sig := { parameters := [], returnType := none }, accessFlags := 1, code := some k0c0 }
/-- java/lang/Object -/
def k0 : Class := { plain "java/lang/Object" none with
  accessFlags := 33
  interfaces := #[]
  cf := some (fileOf pool0 8 #[] #[{ accessFlags := 1, nameIndex := 5, descriptorIndex := 6, attributes := #[] }] 33 0 #[] #[])
  fields := #[]
  methods := #[k0m0]
  instanceTypes := #[]
  staticTypes := #[]
  resolved := Array.replicate 124 none
  statics := none }

def pool1 : Array CpInfo := pool [(2, .class_ 4), (1, u "java/lang/Object"), (0, u "<init>"), (0, u "()V"), (0, .class_ 8), (0, u "com/example/rankline/rankline/core/SeededRandom"), (0, .methodref 7 10), (0, .nameAndType 5 11), (0, u "(J)V"), (0, .methodref 7 13), (0, .nameAndType 14 15), (0, u "nextLong"), (0, u "()J"), (0, .long 11400714819323198485), (1, .long 16294208416658607535), (1, .class_ 21), (0, u "com/example/rankline/rankline/core/SeededRandomNextLongPinLaw"), (2, u "law"), (0, u "(JJ)Z")] 3

def k1m0 : Method := { name := "<init>", desc := "()V", sig := { parameters := [], returnType := none }, accessFlags := 1, code := none }
def k1c1 : Code := { maxStack := 6, maxLocals := 21, code := code, exceptionTable := #[], attributes := #[] }
def k1m1 : Method := { name := "law", desc := "(JJ)Z", sig := { parameters := [.long, .long], returnType := some .boolean }, accessFlags := 9, code := some k1c1 }
/-- com/example/rankline/rankline/core/SeededRandomNextLongPinLaw -/
def k1 : Class := { plain "com/example/rankline/rankline/core/SeededRandomNextLongPinLaw" (some 0) with
  accessFlags := 49
  interfaces := #[]
  cf := some (fileOf pool1 20 #[] #[{ accessFlags := 1, nameIndex := 5, descriptorIndex := 6, attributes := #[] }, { accessFlags := 9, nameIndex := 24, descriptorIndex := 25, attributes := #[] }] 49 2 #[] #[])
  fields := #[]
  methods := #[k1m0, k1m1]
  instanceTypes := #[]
  staticTypes := #[]
  resolved := Array.replicate 29 none
  statics := none }

def pool2 : Array CpInfo := pool [(1, .methodref 2 3), (0, .class_ 4), (0, .nameAndType 5 6), (0, u "java/lang/Object"), (0, u "<init>"), (0, u "()V"), (0, .fieldref 8 9), (0, .class_ 10), (0, .nameAndType 11 12), (0, u "com/example/rankline/rankline/core/SeededRandom"), (0, u "state"), (0, u "J"), (29, .long 11400714819323198485), (1, .long 13787848793156543929), (1, .long 10723151780598845931), (9, u "nextLong"), (0, u "()J"), (10, u "(J)V"), (0, u "STEP"), (1, u "TWO_TO_THE_32"), (0, u "SEED_FORM"), (0, u "Ljava/lang/String;")] 31

def k2c0 : Code := { maxStack := 3, maxLocals := 3, code := prog_11_method_1_code, exceptionTable := #[], attributes := #[] }
def k2m0 : Method := { name := "<init>", desc := "(J)V", sig := { parameters := [.long], returnType := none }, accessFlags := 1, code := some k2c0 }
def k2c1 : Code := { maxStack := 5, maxLocals := 3, code := prog_11_method_4_code, exceptionTable := #[], attributes := #[] }
def k2m1 : Method := { name := "nextLong", desc := "()J", sig := { parameters := [], returnType := some .long }, accessFlags := 1, code := some k2c1 }
/-- com/example/rankline/rankline/core/SeededRandom -/
def k2 : Class := { plain "com/example/rankline/rankline/core/SeededRandom" (some 0) with
  accessFlags := 49
  interfaces := #[]
  cf := some (fileOf pool2 8 #[] #[{ accessFlags := 1, nameIndex := 5, descriptorIndex := 68, attributes := #[] }, { accessFlags := 1, nameIndex := 56, descriptorIndex := 57, attributes := #[] }] 49 2 #[] #[{ accessFlags := 26, nameIndex := 69, descriptorIndex := 12, attributes := #[] }, { accessFlags := 26, nameIndex := 71, descriptorIndex := 12, attributes := #[] }, { accessFlags := 26, nameIndex := 72, descriptorIndex := 73, attributes := #[] }, { accessFlags := 2, nameIndex := 11, descriptorIndex := 12, attributes := #[] }])
  fields := #[{ name := "STEP", type := .long, accessFlags := 26, slot := 0, constantValue := 0 }, { name := "TWO_TO_THE_32", type := .long, accessFlags := 26, slot := 1, constantValue := 0 }, { name := "SEED_FORM", type := (.object "java/lang/String"), accessFlags := 26, slot := 2, constantValue := 0 }, { name := "state", type := .long, accessFlags := 2, slot := 0, constantValue := 0 }]
  methods := #[k2m0, k2m1]
  instanceTypes := #[.long]
  staticTypes := #[.long, .long, (.object "java/lang/String")]
  resolved := Array.replicate 105 none
  statics := none }

def pool3 : Array CpInfo := pool [(1, u "java/lang/Cloneable"), (0, .class_ 1), (0, u "java/lang/Object"), (0, .class_ 3)] 3

/-- java/lang/Cloneable -/
def k3 : Class := { plain "java/lang/Cloneable" (some 0) with
  accessFlags := 1537
  interfaces := #[]
  cf := some (fileOf pool3 2 #[] #[] 1537 4 #[] #[])
  fields := #[]
  methods := #[]
  instanceTypes := #[]
  staticTypes := #[]
  resolved := Array.replicate 8 none
  statics := none }

def pool4 : Array CpInfo := pool [(1, u "java/io/Serializable"), (0, .class_ 1), (0, u "java/lang/Object"), (0, .class_ 3)] 3

/-- java/io/Serializable -/
def k4 : Class := { plain "java/io/Serializable" (some 0) with
  accessFlags := 1537
  interfaces := #[]
  cf := some (fileOf pool4 2 #[] #[] 1537 4 #[] #[])
  fields := #[]
  methods := #[]
  instanceTypes := #[]
  staticTypes := #[]
  resolved := Array.replicate 8 none
  statics := none }

/-- the primitive byte -/
def k5 : Class := { plain "byte" none with kind := .primitive 'B', accessFlags := 0x411 }
/-- [B -/
def k6 : Class := { plain "[B" (some 0) with kind := .array 5 .byte, interfaces := #[3, 4], accessFlags := 1041 }

/-- the primitive int -/
def k7 : Class := { plain "int" none with kind := .primitive 'I', accessFlags := 0x411 }
/-- [I -/
def k8 : Class := { plain "[I" (some 0) with kind := .array 7 .int, interfaces := #[3, 4], accessFlags := 1041 }

def heap : Heap := #[]
def classes : Array Class := #[k0, k1, k2, k3, k4, k5, k6, k7, k8]
def interned : List (Array UInt16 × Addr) := []
def slotsUsed : Nat := 0
def theMethod : MethodId := ⟨1, 1⟩
def args0 : Array Value := #[.long 5, .long 3]
def aboutOver (below : List Frame) : State where
  vm := { classes := classes, interned := interned.toArray }
  heap := heap
  slotsUsed := slotsUsed
  threads := #[{ frames := .invoking theMethod args0 :: below }]
def below0 : List Frame := [.native { method := ⟨0, 0⟩, args := #[] }]
def about1 : State := aboutOver below0
def p0 : Program := .bare "" "" ""
def e0 : Env := launch0.env 0 0 0
theorem w_frames : about1.frames = Frame.invoking theMethod args0 :: below0 := rfl
set_option maxRecDepth 65536 in
theorem w_args : argsFit about1.vm theMethod args0 = true := by decide +kernel
set_option maxRecDepth 65536 in
theorem w_heap : heapFits about1 = true := by decide +kernel
set_option maxRecDepth 65536 in
theorem w_runnable : about1.curStatus? = some .runnable := by decide +kernel
set_option maxRecDepth 65536 in
theorem w_alone : about1.alone = true := by decide +kernel
set_option maxRecDepth 65536 in
theorem w_named : about1.methodNamed? x = some theMethod := by decide +kernel
set_option maxRecDepth 65536 in
theorem w_hears : about1.hears theMethod below0 = true := by decide +kernel
set_option maxRecDepth 65536 in
theorem w_ripe : about1.ripe theMethod args0 below0 = true := by decide +kernel
theorem w_running : about1.status = .running := rfl
set_option maxRecDepth 65536 in
theorem w_room : about1.hasRoom e0.platform room_1 = true :=
  launch0.hasRoom_least _ room_1 (by decide +kernel) (by decide +kernel) (by decide +kernel) (by decide +kernel) (by decide +kernel) (by decide +kernel)
theorem allAtoms_all (ts : List Jvm.Cond) (a : Array Jvm.Value) (st : Jvm.State) : (allAtoms ts).before a st = ts.all (fun c => c.before a st) := by
  induction ts with
  | nil => rfl
  | cons c t ih =>
    show (Jvm.Cond.and c (allAtoms t)).before a st = _
    rw [Jvm.Cond.before_and, ih, List.all_cons]
def words1 : List Jvm.Cond := Jvm.Cond.code x code maxLocals ret :: tables_1
/-- a 'code' word, met by the world's own term for the bytes: nothing is compared byte by byte -/
theorem code_word {y : MethodName} {bytes : ByteArray} {mx : Nat} {rt : Option FieldType} {a : Array Value} {s : State} {m : MethodId} {meth : Method} {c : Code} (h1 : s.methodNamed? y = some m) (h2 : s.vm.method? m = some meth) (h3 : meth.code = some c) (h4 : c.code = bytes)
    (h5 : (c.maxLocals == mx && c.exceptionTable.isEmpty && decide (c.maxStack ≤ mostOperands) && decide (meth.sig.returnType = rt) && !meth.locks && decide (parseMethodDescriptor y.desc = some meth.sig)) = true) : (Jvm.Cond.code y bytes mx rt).before a s = true := by
  simp only [Bool.and_eq_true, beq_iff_eq, Bool.not_eq_true', decide_eq_true_eq] at h5
  obtain ⟨⟨⟨⟨⟨g1, g2⟩, g3⟩, g4⟩, g5⟩, g6⟩ := h5
  simp [Cond.before, Cond.holds, Cond.value, h1, h2, h3, h4, g1, g2, g3, g4, g5, g6]
def isCode : Jvm.Cond → Bool
  | .code _ _ _ _ => true
  | _ => false
theorem all_split {L : List Jvm.Cond} {P : Jvm.Cond → Bool} (h1 : L.all (fun c => isCode c || P c) = true) (h2 : ∀ c ∈ L.filter isCode, P c = true) : L.all P = true := by
  refine List.all_eq_true.mpr fun c hc => ?_
  have h := List.all_eq_true.mp h1 c hc
  rcases Bool.eq_false_or_eq_true (isCode c) with hi | hi
  · exact h2 c (List.mem_filter.mpr ⟨hc, hi⟩)
  · simpa [hi] using h
set_option maxRecDepth 65536 in
theorem w_c0 : (Jvm.Cond.code x code maxLocals ret).before args0 about1 = true := code_word (m := ⟨1, 1⟩) (meth := k1m1) (c := k1c1) (by decide +kernel) rfl rfl rfl (by decide +kernel)
set_option maxRecDepth 65536 in
theorem w_c1 : (Jvm.Cond.code ({ cls := "com/example/rankline/rankline/core/SeededRandom", name := "<init>", desc := "(J)V" } : Jvm.MethodName) prog_11_method_1_code (3 : Nat) (Option.none : Option Jvm.ClassFile.FieldType)).before args0 about1 = true := code_word (m := ⟨2, 0⟩) (meth := k2m0) (c := k2c0) (by decide +kernel) rfl rfl rfl (by decide +kernel)
set_option maxRecDepth 65536 in
theorem w_c2 : (Jvm.Cond.code ({ cls := "java/lang/Object", name := "<init>", desc := "()V" } : Jvm.MethodName) object_method_1_code (1 : Nat) (Option.none : Option Jvm.ClassFile.FieldType)).before args0 about1 = true := code_word (m := ⟨0, 0⟩) (meth := k0m0) (c := k0c0) (by decide +kernel) rfl rfl rfl (by decide +kernel)
set_option maxRecDepth 65536 in
theorem w_c3 : (Jvm.Cond.code ({ cls := "com/example/rankline/rankline/core/SeededRandom", name := "nextLong", desc := "()J" } : Jvm.MethodName) prog_11_method_4_code (3 : Nat) (Option.some Jvm.ClassFile.FieldType.long)).before args0 about1 = true := code_word (m := ⟨2, 1⟩) (meth := k2m1) (c := k2c1) (by decide +kernel) rfl rfl rfl (by decide +kernel)
def codes1 : List Jvm.Cond := [Jvm.Cond.code x code maxLocals ret, Jvm.Cond.code ({ cls := "com/example/rankline/rankline/core/SeededRandom", name := "<init>", desc := "(J)V" } : Jvm.MethodName) prog_11_method_1_code (3 : Nat) (Option.none : Option Jvm.ClassFile.FieldType), Jvm.Cond.code ({ cls := "java/lang/Object", name := "<init>", desc := "()V" } : Jvm.MethodName) object_method_1_code (1 : Nat) (Option.none : Option Jvm.ClassFile.FieldType), Jvm.Cond.code ({ cls := "com/example/rankline/rankline/core/SeededRandom", name := "nextLong", desc := "()J" } : Jvm.MethodName) prog_11_method_4_code (3 : Nat) (Option.some Jvm.ClassFile.FieldType.long)]
set_option maxRecDepth 65536 in
theorem codes_eq : words1.filter isCode = codes1 := rfl
theorem w_codes : ∀ c ∈ words1.filter isCode, c.before args0 about1 = true := by
  rw [codes_eq]
  intro c hc
  simp only [codes1, List.mem_cons, List.not_mem_nil, or_false] at hc
  rcases hc with rfl | rfl | rfl | rfl
  · exact w_c0
  · exact w_c1
  · exact w_c2
  · exact w_c3
set_option maxRecDepth 65536 in
theorem w_t1 : words1.all (fun c => isCode c || c.before args0 about1) = true := by decide +kernel
theorem w_tables : (allAtoms (Jvm.Cond.code x code maxLocals ret :: tables_1)).before args0 about1 = true := by
  rw [allAtoms_all]
  show words1.all (fun c => c.before args0 about1) = true
  refine all_split ?_ w_codes
  rw [w_t1]
set_option maxRecDepth 65536 in
theorem w_case : (Jvm.Cond.and given_1 narrow_1).before args0 about1 = true := by decide +kernel
theorem w_applies : (headSpec (Jvm.Cond.code x code maxLocals ret :: tables_1) room_1).applies x e0.platform about1 = true :=
  (Spec.applies_iff w_frames).mpr ⟨w_running, w_runnable, w_alone, w_named, w_hears, w_ripe, w_room, w_tables⟩
theorem atStart : AtStart classFile x code maxLocals ret World_1 tables_1 room_1 Calls_1 rest_1 Pre_1 launch0 p0 e0 about1 theMethod args0 below0 :=
  ⟨lists_1, trivial, launch0.admits_env _ _ _, launch0.least_env, fairChoices_fair.cas, fairChoices_fair.clock, w_frames, w_args, w_heap, w_applies, trivial, trivial, w_case⟩
end start1
theorem witness_1 : WitnessClaimed_1 := ⟨start1.p0, start1.e0, start1.about1, start1.theMethod, start1.args0, start1.below0, start1.atStart⟩
end Jvm.Pilot.@@N@@
