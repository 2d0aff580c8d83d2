import JvmDerived
import JvmDerived.Pilot.@@N@@Statement
import JvmDerived.Pilot.@@N@@Code
set_option linter.unusedVariables false
set_option linter.unusedSimpArgs false
namespace Jvm.Pilot.@@N@@
open Jvm Jvm.ClassFile Sem Op Lib Jvm.Free Jvm.Stand Jvm.LawKit Jvm.RoadKit Bundle Jvm.Pilot.@@N@@.Jvm.D
section OwnKit
variable {p : Program} {l : Launch} {e : Env} {R : Room} {s : State} {m : MethodId} {args : Array Value} {below : List Frame} {meth : Method} {c : Code} {T : State} {locs : List Loc} {cells slots : Nat} {Z : State} {h h' : Heap} {a b : Addr}
def OwnWp (p : Program) (e : Env) (below : List Frame) (s : State) (C S : Nat) (Q : Option Value → Heap → List Loc → Prop) (U : State) : Prop :=
  ∃ s₂ o, Steps p.tables e below U s₂ ∧ s₂.status = .running ∧ Ended s₂ below o ∧ ∃ v L, o = .returned v ∧ Q v s₂.heap L ∧ FrameEnd s o s₂ L C S
variable {C S : Nat} {Q : Option Value → Heap → List Loc → Prop}
theorem OwnWp.step {U U' : State} (hs : ∀ t, Steps p.tables e below U' t → Steps p.tables e below U t) (k : OwnWp p e below s C S Q U') : OwnWp p e below s C S Q U := by
  obtain ⟨s2, o, h1, r⟩ := k
  exact ⟨s2, o, hs _ h1, r⟩
theorem OwnWp.go {U U' : State} (hs : Steps p.tables e below U U') (k : OwnWp p e below s C S Q U') : OwnWp p e below s C S Q U := k.step fun _ q => hs.trans q
theorem OwnWp.cast {g g' : JFrame} (q : g = g') (k : OwnWp p e below s C S Q (T.setTop g')) : OwnWp p e below s C S Q (T.setTop g) := q ▸ k
theorem OwnWp.retI (X : Stand p l e R s m args below meth c T locs cells slots) (hx : p.tables.exec = Jvm.exec) (hlk : meth.locks = false) (hret : meth.sig.returnType = some .int) {pc : Nat} {Ls : Array Slot} {z : Int32} {rest : List Value} (hd : decode c.code pc = .ok (.ireturn, 1)) (hC : cells ≤ C) (hS : slots ≤ S) (hQ : Q (some (.int z)) T.heap locs) :
    OwnWp p e below s C S Q (T.setTop (mkF m pc Ls (.int z :: rest))) := by
  obtain ⟨fs, hr, hrun, hended, hW, hsame⟩ := X.leave (v := some (.int z)) (fun h => by rw [hret] at h; cases h) hlk
  exact ⟨_, _, retOut X hx hret rfl (Or.inl ⟨rfl, Or.inl rfl, z, rfl⟩) hd hr, hrun, hended, _, _, rfl, hQ, ⟨_, rfl⟩, hW, hsame.mono hC hS⟩
theorem OwnWp.retJ (X : Stand p l e R s m args below meth c T locs cells slots) (hx : p.tables.exec = Jvm.exec) (hlk : meth.locks = false) (hret : meth.sig.returnType = some .long) {pc : Nat} {Ls : Array Slot} {z : Int64} {rest : List Value} (hd : decode c.code pc = .ok (.lreturn, 1)) (hC : cells ≤ C) (hS : slots ≤ S) (hQ : Q (some (.long z)) T.heap locs) :
    OwnWp p e below s C S Q (T.setTop (mkF m pc Ls (.long z :: rest))) := by
  obtain ⟨fs, hr, hrun, hended, hW, hsame⟩ := X.leave (v := some (.long z)) (fun h => by rw [hret] at h; cases h) hlk
  exact ⟨_, _, retOut X hx hret rfl (Or.inr (Or.inl ⟨rfl, rfl, z, rfl⟩)) hd hr, hrun, hended, _, _, rfl, hQ, ⟨_, rfl⟩, hW, hsame.mono hC hS⟩
theorem OwnWp.retA (X : Stand p l e R s m args below meth c T locs cells slots) (hx : p.tables.exec = Jvm.exec) (hlk : meth.locks = false) {t : FieldType} (hret : meth.sig.returnType = some t) (ht : t.isReference = true) {pc : Nat} {Ls : Array Slot} {z : Addr} {rest : List Value} (hn : narrow t (.ref z) = .ref z) (hd : decode c.code pc = .ok (.areturn, 1)) (hC : cells ≤ C) (hS : slots ≤ S) (hQ : Q (some (.ref z)) T.heap locs) :
    OwnWp p e below s C S Q (T.setTop (mkF m pc Ls (.ref z :: rest))) := by
  obtain ⟨fs, hr, hrun, hended, hW, hsame⟩ := X.leave (v := some (.ref z)) (fun h => by rw [hret] at h; cases h) hlk
  exact ⟨_, _, retOut X hx hret hn (Or.inr (Or.inr (Or.inr (Or.inr ⟨rfl, ht, rfl⟩)))) hd hr, hrun, hended, _, _, rfl, hQ, ⟨_, rfl⟩, hW, hsame.mono hC hS⟩
theorem OwnWp.retZ (X : Stand p l e R s m args below meth c T locs cells slots) (hx : p.tables.exec = Jvm.exec) (hlk : meth.locks = false) (hret : meth.sig.returnType = some .boolean) {pc : Nat} {Ls : Array Slot} {z : Int32} {rest : List Value} (hd : decode c.code pc = .ok (.ireturn, 1)) (hC : cells ≤ C) (hS : slots ≤ S) (hz : z = 0 ∨ z = 1) (hQ : Q (some (.int z)) T.heap locs) :
    OwnWp p e below s C S Q (T.setTop (mkF m pc Ls (.int z :: rest))) := by
  have hn : nar .boolean z = z := by rcases hz with rfl | rfl <;> rfl
  obtain ⟨fs, hr, hrun, hended, hW, hsame⟩ := X.leave (v := some (.int (nar .boolean z))) (fun h => by rw [hret] at h; cases h) hlk
  exact ⟨_, _, retN X hx hret (Or.inl rfl) hd hr, hrun, hended, _, _, rfl, by rw [hn]; exact hQ, ⟨_, rfl⟩, hW, hsame.mono hC hS⟩
theorem OwnWp.retV (X : Stand p l e R s m args below meth c T locs cells slots) (hx : p.tables.exec = Jvm.exec) (hlk : meth.locks = false) (hret : meth.sig.returnType = none) {pc : Nat} {Ls : Array Slot} (hd : decode c.code pc = .ok (.return_, 1)) (hC : cells ≤ C) (hS : slots ≤ S) (hQ : Q none T.heap locs) :
    OwnWp p e below s C S Q (T.setTop (mkF m pc Ls [])) := by
  obtain ⟨fs, hr, hrun, hended, hW, hsame⟩ := X.leave (v := none) (fun _ => rfl) hlk
  exact ⟨_, _, X.returnOut hx hret hd hr, hrun, hended, _, _, rfl, hQ, ⟨_, rfl⟩, hW, hsame.mono hC hS⟩
theorem own_widen {cells' slots' : Nat} (X : Stand p l e R s m args below meth c T locs cells slots) (h1 : cells ≤ cells') (h2 : slots ≤ slots') : Stand p l e R s m args below meth c T locs cells' slots' := { X with same := X.same.mono h1 h2 }
theorem own_lrem {g : JFrame} {target : State} (X : Stand p l e R s m args below meth c T locs cells slots) (hx : p.tables.exec = Jvm.exec) (hg : g.method = m) {x y : Int64} {rest : List Value} (hd : decode c.code g.pc = .ok (.lrem, 1)) (hs : g.stack = .long y :: .long x :: rest) (hy : y ≠ 0)
    (hr : Steps p.tables e below (T.setTop { g with pc := g.pc + 1, stack := .long (x % y) :: rest }) target) : Steps p.tables e below (T.setTop g) target :=
  XT.lrem X.here hx hg hd hs hy (by rw [lrem_mod]; exact hr)
/-- an array: its kind, its length, what place i holds -/
def OwnA (Z : State) (h : Heap) (a : Addr) (ty : FieldType) (n : Int32) (f : Int → Value) : Prop :=
  ∃ cl : Cell, Arr Z h a cl ty ∧ (cl.slots.size : Int) = n.toInt ∧ ∀ i : Int, 0 ≤ i → i < n.toInt → cl.slots[i.toNat]? = some (f i)
def ownUpd {α : Type} (f : Int → α) (j : Int) (x : α) : Int → α := fun i => if i = j then x else f i
theorem ownUpd_same {α : Type} (f : Int → α) (j : Int) (x : α) : ownUpd f j x j = x := if_pos rfl
theorem ownUpd_ne {α : Type} (f : Int → α) (j : Int) (x : α) {i : Int} (q : i ≠ j) : ownUpd f j x i = f i := if_neg q
variable {ty : FieldType} {n : Int32} {f : Int → Value} {ws : List Addr}
theorem OwnA.lt (F : OwnA Z h a ty n f) : a < h.size := by obtain ⟨_, A, -⟩ := F; exact A.lt
theorem OwnA.ext (F : OwnA Z h a ty n f) (E : Ext h h') : OwnA Z h' a ty n f := by obtain ⟨cl, A, r⟩ := F; exact ⟨cl, A.ext E, r⟩
theorem OwnA.keep (F : OwnA Z h a ty n f) (K : Keep h h' ws) (q : a ∉ ws) : OwnA Z h' a ty n f := by obtain ⟨cl, A, r⟩ := F; exact ⟨cl, ⟨K.2.1 a cl A.1 q, A.2⟩, r⟩
theorem OwnA.other {sl : Nat} {v : Value} (F : OwnA Z h b ty n f) (W : Wr h h' a sl v) (q : b ≠ a) : OwnA Z h' b ty n f := by obtain ⟨cl, A, r⟩ := F; exact ⟨cl, A.other W q, r⟩
theorem OwnA.len (F : OwnA Z h a ty n f) : 0 ≤ n.toInt := by obtain ⟨cl, _, r, _⟩ := F; omega
theorem OwnA.congr {f' : Int → Value} (F : OwnA Z h a ty n f) (q : ∀ i, 0 ≤ i → i < n.toInt → f i = f' i) : OwnA Z h a ty n f' := by obtain ⟨cl, A, r1, r2⟩ := F; exact ⟨cl, A, r1, fun i h1 h2 => by rw [← q i h1 h2]; exact r2 i h1 h2⟩
theorem own_clamp (j : Int32) : j.toNatClampNeg = j.toInt.toNat := rfl
theorem own_in {cl : Cell} {j : Int32} (r : (cl.slots.size : Int) = n.toInt) (h1 : 0 ≤ j.toInt) (h2 : j.toInt < n.toInt) : ¬ (j < 0 ∨ cl.slots.size ≤ j.toNatClampNeg) := by
  rw [own_clamp, Int32.lt_iff_toInt_lt, Int32.toInt_zero]; omega
theorem OwnA.new {k : ClassId} {z : Int32} (A : Arr Z h a (newA k ty z) ty) (q : 0 ≤ z.toInt) : OwnA Z h a ty z (fun _ => defaultValue ty) := by
  refine ⟨_, A, ?_, fun i h1 h2 => ?_⟩
  · rw [sz_new, own_clamp]; omega
  · have hi : i.toNat < z.toNatClampNeg := by rw [own_clamp]; omega
    show (Array.replicate z.toNatClampNeg (defaultValue ty))[i.toNat]? = _
    rw [Array.getElem?_replicate, if_pos hi]
theorem OwnA.set {j : Int32} {v : Value} (F : OwnA Z h a ty n f) (h1 : 0 ≤ j.toInt) (h2 : j.toInt < n.toInt) (W : Wr h h' a j.toNatClampNeg v) : OwnA Z h' a ty n (ownUpd f j.toInt v) := by
  obtain ⟨cl, A, r1, r2⟩ := F
  refine ⟨_, A.same W, by rw [sz_set]; exact r1, fun i g1 g2 => ?_⟩
  by_cases q : i = j.toInt
  · subst q
    rw [ownUpd_same]
    have hi : j.toNatClampNeg < cl.slots.size := by rw [own_clamp]; omega
    exact Array.getElem?_setIfInBounds_self_of_lt hi
  · rw [ownUpd_ne _ _ _ q, ← r2 i g1 g2, own_clamp]
    exact Array.getElem?_setIfInBounds_ne (by omega)
variable {g : JFrame} {target : State} {rest : List Value} {j : Int32}
theorem OwnA.alen (X : Stand p l e R s m args below meth c T locs cells slots) (hx : p.tables.exec = Jvm.exec) (hZ : Z.Warmed39 s.vm) (eT : T.heap = h) (F : OwnA Z h a ty n f) (hg : g.method = m) (hs : g.stack = .ref a :: rest) (hd : decode c.code g.pc = .ok (.arraylength, 1))
    (hr : Steps p.tables e below (T.setTop { g with pc := g.pc + 1, stack := .int n :: rest }) target) : Steps p.tables e below (T.setTop g) target := by
  obtain ⟨cl, A, r1, r2⟩ := F
  subst eT
  refine X.arraylength hx A.1 (State.isArrayOf_alike hZ.alike A.2.1) hg hs hd target ?_
  have q : cl.slots.size.toInt32 = n := by
    have q0 : cl.slots.size = n.toNatClampNeg := by rw [own_clamp]; omega
    exact len_of q0 (by rw [Int32.lt_iff_toInt_lt, Int32.toInt_zero]; omega)
  rw [q]; exact hr
theorem OwnA.ldI (X : Stand p l e R s m args below meth c T locs cells slots) (hx : p.tables.exec = Jvm.exec) (hZ : Z.Warmed39 s.vm) (eT : T.heap = h) (F : OwnA Z h a .int n f) (h1 : 0 ≤ j.toInt) (h2 : j.toInt < n.toInt) (hg : g.method = m) (hs : g.stack = .int j :: .ref a :: rest) (hd : decode c.code g.pc = .ok (.iaload, 1))
    (hr : Steps p.tables e below (T.setTop { g with pc := g.pc + 1, stack := f j.toInt :: rest }) target) : Steps p.tables e below (T.setTop g) target := by
  obtain ⟨cl, A, r1, r2⟩ := F
  subst eT
  exact X.iaload hx A.1 (State.isArrayOf_alike hZ.alike A.2.1) A.2.2 (own_in r1 h1 h2) (r2 _ h1 h2) hg hs hd target hr
theorem OwnA.ldJ (X : Stand p l e R s m args below meth c T locs cells slots) (hx : p.tables.exec = Jvm.exec) (hZ : Z.Warmed39 s.vm) (eT : T.heap = h) (F : OwnA Z h a .long n f) (h1 : 0 ≤ j.toInt) (h2 : j.toInt < n.toInt) (hg : g.method = m) (hs : g.stack = .int j :: .ref a :: rest) (hd : decode c.code g.pc = .ok (.laload, 1))
    (hr : Steps p.tables e below (T.setTop { g with pc := g.pc + 1, stack := f j.toInt :: rest }) target) : Steps p.tables e below (T.setTop g) target := by
  obtain ⟨cl, A, r1, r2⟩ := F
  subst eT
  exact X.laload hx A.1 (State.isArrayOf_alike hZ.alike A.2.1) A.2.2 (own_in r1 h1 h2) (r2 _ h1 h2) hg hs hd target hr
theorem OwnA.ldC (X : Stand p l e R s m args below meth c T locs cells slots) (hx : p.tables.exec = Jvm.exec) (hZ : Z.Warmed39 s.vm) (eT : T.heap = h) (F : OwnA Z h a .char n f) (h1 : 0 ≤ j.toInt) (h2 : j.toInt < n.toInt) (hg : g.method = m) (hs : g.stack = .int j :: .ref a :: rest) (hd : decode c.code g.pc = .ok (.caload, 1))
    (hr : Steps p.tables e below (T.setTop { g with pc := g.pc + 1, stack := f j.toInt :: rest }) target) : Steps p.tables e below (T.setTop g) target := by
  obtain ⟨cl, A, r1, r2⟩ := F
  subst eT
  exact X.caload hx A.1 (State.isArrayOf_alike hZ.alike A.2.1) A.2.2 (own_in r1 h1 h2) (r2 _ h1 h2) hg hs hd target hr
theorem OwnA.ldB (X : Stand p l e R s m args below meth c T locs cells slots) (hx : p.tables.exec = Jvm.exec) (hZ : Z.Warmed39 s.vm) (eT : T.heap = h) (F : OwnA Z h a .byte n f) (h1 : 0 ≤ j.toInt) (h2 : j.toInt < n.toInt) (hg : g.method = m) (hs : g.stack = .int j :: .ref a :: rest) (hd : decode c.code g.pc = .ok (.baload, 1))
    (hr : Steps p.tables e below (T.setTop { g with pc := g.pc + 1, stack := f j.toInt :: rest }) target) : Steps p.tables e below (T.setTop g) target := by
  obtain ⟨cl, A, r1, r2⟩ := F
  subst eT
  exact X.baloadBytes hx A.1 (State.isArrayOf_alike hZ.alike A.2.1) A.2.2 (own_in r1 h1 h2) (r2 _ h1 h2) hg hs hd target hr
theorem OwnA.ldZ (X : Stand p l e R s m args below meth c T locs cells slots) (hx : p.tables.exec = Jvm.exec) (hZ : Z.Warmed39 s.vm) (eT : T.heap = h) (F : OwnA Z h a .boolean n f) (h1 : 0 ≤ j.toInt) (h2 : j.toInt < n.toInt) (hg : g.method = m) (hs : g.stack = .int j :: .ref a :: rest) (hd : decode c.code g.pc = .ok (.baload, 1))
    (hr : Steps p.tables e below (T.setTop { g with pc := g.pc + 1, stack := f j.toInt :: rest }) target) : Steps p.tables e below (T.setTop g) target := by
  obtain ⟨cl, A, r1, r2⟩ := F
  subst eT
  exact X.baloadBooleans hx A.1 (State.isArrayOf_alike hZ.alike A.2.1) A.2.2 (own_in r1 h1 h2) (r2 _ h1 h2) hg hs hd target hr
theorem own_frs {k : Nat} {sl : Nat} (N : Fr k locs) (q : k ≤ a) : Fr k (locs ++ [⟨a, sl⟩]) := N.app fun y hy => by cases List.mem_singleton.mp hy; exact q
theorem OwnA.stI {n0 : Nat} {x : Int32} (X : Stand p l e R s m args below meth c T locs cells slots) (hx : p.tables.exec = Jvm.exec) (hZ : Z.Warmed39 s.vm) (eT : T.heap = h) (N : Fr n0 locs) (q : n0 ≤ a) (F : OwnA Z h a .int n f) (h1 : 0 ≤ j.toInt) (h2 : j.toInt < n.toInt) (hg : g.method = m) (hs : g.stack = .int x :: .int j :: .ref a :: rest) (hd : decode c.code g.pc = .ok (.iastore, 1)) :
    ∃ T' h' L', Stand p l e R s m args below meth c T' L' cells slots ∧ T'.heap = h' ∧ Fr n0 L' ∧ Keep h h' [a] ∧ OwnA Z h' a .int n (ownUpd f j.toInt (.int x)) ∧ ∀ target, Steps p.tables e below (T'.setTop { g with pc := g.pc + 1, stack := rest }) target → Steps p.tables e below (T.setTop g) target := by
  obtain ⟨cl, A, r1, r2⟩ := id F
  obtain ⟨T', h', X', e', W, st⟩ := RoadKit.stI X hx hZ eT A (own_in r1 h1 h2) hg hs hd
  exact ⟨T', h', _, X', e', own_frs N q, Keep.of_wr W, F.set h1 h2 W, st⟩
theorem OwnA.stJ {n0 : Nat} {x : Int64} (X : Stand p l e R s m args below meth c T locs cells slots) (hx : p.tables.exec = Jvm.exec) (hZ : Z.Warmed39 s.vm) (eT : T.heap = h) (N : Fr n0 locs) (q : n0 ≤ a) (F : OwnA Z h a .long n f) (h1 : 0 ≤ j.toInt) (h2 : j.toInt < n.toInt) (hg : g.method = m) (hs : g.stack = .long x :: .int j :: .ref a :: rest) (hd : decode c.code g.pc = .ok (.lastore, 1)) :
    ∃ T' h' L', Stand p l e R s m args below meth c T' L' cells slots ∧ T'.heap = h' ∧ Fr n0 L' ∧ Keep h h' [a] ∧ OwnA Z h' a .long n (ownUpd f j.toInt (.long x)) ∧ ∀ target, Steps p.tables e below (T'.setTop { g with pc := g.pc + 1, stack := rest }) target → Steps p.tables e below (T.setTop g) target := by
  obtain ⟨cl, A, r1, r2⟩ := id F
  obtain ⟨T', h', X', e', W, st⟩ := RoadKit.stJ X hx hZ eT A (own_in r1 h1 h2) hg hs hd
  exact ⟨T', h', _, X', e', own_frs N q, Keep.of_wr W, F.set h1 h2 W, st⟩
theorem OwnA.stC {n0 : Nat} {x : Int32} (X : Stand p l e R s m args below meth c T locs cells slots) (hx : p.tables.exec = Jvm.exec) (hZ : Z.Warmed39 s.vm) (eT : T.heap = h) (N : Fr n0 locs) (q : n0 ≤ a) (F : OwnA Z h a .char n f) (h1 : 0 ≤ j.toInt) (h2 : j.toInt < n.toInt) (hg : g.method = m) (hs : g.stack = .int x :: .int j :: .ref a :: rest) (hd : decode c.code g.pc = .ok (.castore, 1)) :
    ∃ T' h' L', Stand p l e R s m args below meth c T' L' cells slots ∧ T'.heap = h' ∧ Fr n0 L' ∧ Keep h h' [a] ∧ OwnA Z h' a .char n (ownUpd f j.toInt (.int (nar .char x))) ∧ ∀ target, Steps p.tables e below (T'.setTop { g with pc := g.pc + 1, stack := rest }) target → Steps p.tables e below (T.setTop g) target := by
  obtain ⟨cl, A, r1, r2⟩ := id F
  obtain ⟨T', h', X', e', W, st⟩ := RoadKit.stC X hx hZ eT A (own_in r1 h1 h2) hg hs hd
  exact ⟨T', h', _, X', e', own_frs N q, Keep.of_wr W, F.set h1 h2 W, st⟩
theorem OwnA.stB {n0 : Nat} {x : Int32} (X : Stand p l e R s m args below meth c T locs cells slots) (hx : p.tables.exec = Jvm.exec) (hZ : Z.Warmed39 s.vm) (eT : T.heap = h) (N : Fr n0 locs) (q : n0 ≤ a) (F : OwnA Z h a .byte n f) (h1 : 0 ≤ j.toInt) (h2 : j.toInt < n.toInt) (hg : g.method = m) (hs : g.stack = .int x :: .int j :: .ref a :: rest) (hd : decode c.code g.pc = .ok (.bastore, 1)) :
    ∃ T' h' L', Stand p l e R s m args below meth c T' L' cells slots ∧ T'.heap = h' ∧ Fr n0 L' ∧ Keep h h' [a] ∧ OwnA Z h' a .byte n (ownUpd f j.toInt (.int (nar .byte x))) ∧ ∀ target, Steps p.tables e below (T'.setTop { g with pc := g.pc + 1, stack := rest }) target → Steps p.tables e below (T.setTop g) target := by
  obtain ⟨cl, A, r1, r2⟩ := id F
  obtain ⟨T', h', X', e', W, st⟩ := RoadKit.stB X hx hZ eT A (own_in r1 h1 h2) hg hs hd
  exact ⟨T', h', _, X', e', own_frs N q, Keep.of_wr W, F.set h1 h2 W, st⟩
theorem OwnA.stZ {n0 : Nat} {x : Int32} (X : Stand p l e R s m args below meth c T locs cells slots) (hx : p.tables.exec = Jvm.exec) (hZ : Z.Warmed39 s.vm) (eT : T.heap = h) (N : Fr n0 locs) (q : n0 ≤ a) (F : OwnA Z h a .boolean n f) (h1 : 0 ≤ j.toInt) (h2 : j.toInt < n.toInt) (hg : g.method = m) (hs : g.stack = .int x :: .int j :: .ref a :: rest) (hd : decode c.code g.pc = .ok (.bastore, 1)) :
    ∃ T' h' L', Stand p l e R s m args below meth c T' L' cells slots ∧ T'.heap = h' ∧ Fr n0 L' ∧ Keep h h' [a] ∧ OwnA Z h' a .boolean n (ownUpd f j.toInt (.int (nar .boolean x))) ∧ ∀ target, Steps p.tables e below (T'.setTop { g with pc := g.pc + 1, stack := rest }) target → Steps p.tables e below (T.setTop g) target := by
  obtain ⟨cl, A, r1, r2⟩ := id F
  obtain ⟨T', h', X', e', W, st⟩ := RoadKit.stZ X hx hZ eT A (own_in r1 h1 h2) hg hs hd
  exact ⟨T', h', _, X', e', own_frs N q, Keep.of_wr W, F.set h1 h2 W, st⟩
end OwnKit
theorem own_ofi {n : Int} (h1 : -2147483648 ≤ n) (h2 : n < 2147483648) : (Int32.ofInt n).toInt = n := by
  rw [Int32.toInt_ofInt, show Int32.size = 4294967296 from rfl, Int.bmod_eq_of_le (by omega) (by omega)]
theorem own_ofj {n : Int} (h1 : -9223372036854775808 ≤ n) (h2 : n < 9223372036854775808) : (Int64.ofInt n).toInt = n := by
  rw [Int64.toInt_ofInt, show Int64.size = 18446744073709551616 from rfl, Int.bmod_eq_of_le (by omega) (by omega)]
/-- an int between 0 and n is one of finitely many -/
theorem own_fin {x : Int32} {n : Nat} (h1 : 0 ≤ x.toInt) (h2 : x.toInt < n) : ∃ k : Fin n, x = Int32.ofInt (k.1 : Int) := by
  have h3 := x.toInt_lt
  refine ⟨⟨x.toInt.toNat, by omega⟩, Int32.toInt_inj.mp ?_⟩
  show _ = (Int32.ofInt ((x.toInt.toNat : Nat) : Int)).toInt
  rw [own_ofi (by omega) (by omega)]; omega
theorem d1_0 : decode prog_6_method_8_code 0 = .ok (.iload_n 0, 1) := by decide +kernel
theorem d1_1 : decode prog_6_method_8_code 1 = .ok (.bipush 8, 2) := by decide +kernel
theorem d1_3 : decode prog_6_method_8_code 3 = .ok (.iushr, 1) := by decide +kernel
theorem d1_4 : decode prog_6_method_8_code 4 = .ok (.lload_n 1, 1) := by decide +kernel
theorem d1_5 : decode prog_6_method_8_code 5 = .ok (.bipush 12, 2) := by decide +kernel
theorem d1_7 : decode prog_6_method_8_code 7 = .ok (.lshl, 1) := by decide +kernel
theorem d1_8 : decode prog_6_method_8_code 8 = .ok (.bipush 64, 2) := by decide +kernel
theorem d1_10 : decode prog_6_method_8_code 10 = .ok (.iload_n 0, 1) := by decide +kernel
theorem d1_11 : decode prog_6_method_8_code 11 = .ok (.bipush 15, 2) := by decide +kernel
theorem d1_13 : decode prog_6_method_8_code 13 = .ok (.iand, 1) := by decide +kernel
theorem d1_14 : decode prog_6_method_8_code 14 = .ok (.isub, 1) := by decide +kernel
theorem d1_15 : decode prog_6_method_8_code 15 = .ok (.lushr, 1) := by decide +kernel
theorem d1_16 : decode prog_6_method_8_code 16 = .ok (.l2i, 1) := by decide +kernel
theorem d1_17 : decode prog_6_method_8_code 17 = .ok (.iadd, 1) := by decide +kernel
theorem d1_18 : decode prog_6_method_8_code 18 = .ok (.ireturn, 1) := by decide +kernel
theorem pn_1 : plainName "com/example/leafcode/leafcode/DecodingTable" = true := by first | (simp [plainName, overriddenIn]; done) | decide +kernel
theorem pd_1 : parseMethodDescriptor "(IJ)I" = some ⟨[.int, .long], some .int⟩ := by decide +kernel
theorem ef_1 (m : MethodId) (x0 : Int32) (x1 : Int64) : entryFrame m #[(.int x0), (.long x1)] 3 = mkF m 0 #[.val (.int x0), .val (.long x1), .second] [] := by first | (simp [entryFrame, mkF, argsToLocals, Value.category, maxLocals]; done) | rfl
def own_f1_w1 (p1 : Int32) (p2 : Int64) : Int32 := ((XT.ushr p1 (8 : Int32)) + (XT.ushrL (p2 <<< ((12 : Int32).toInt64 &&& 63)) ((64 : Int32) - (p1 &&& (15 : Int32)))).toInt32)
def own_f1 (p1 : Int32) (p2 : Int64) : Int32 := (own_f1_w1 p1 p2)
def Q1 (Z : State) (p1 : Int32) (p2 : Int64)  (h0 : Heap) (n0 : Nat) (v : Option Value) (h : Heap) (L : List Loc) : Prop := v = some (.int (own_f1 p1 p2)) ∧ Fr n0 L ∧ h = h0
set_option maxRecDepth 65536 in
set_option maxHeartbeats 40000000 in
theorem rm1 (l : Launch) (Z : State) (a0 : Array Value) (hw : ∀ d ∈ tables_1, d.before a0 Z = true) (ws : List Jvm.Cond) (p1 : Int32) (p2 : Int64)  (h0 : Heap) (n0 : Nat) (Z0 : n0 ≤ h0.size)  :
    MetFree l (⟨"com/example/leafcode/leafcode/DecodingTable", "secondIndex", "(IJ)I"⟩ : MethodName) (head1 (Jvm.Cond.code (⟨"com/example/leafcode/leafcode/DecodingTable", "secondIndex", "(IJ)I"⟩ : MethodName) prog_6_method_8_code 3 (some .int) :: ws) ({ frames := 0, cells := 0, slots := 0, locals := 0 } : Room)) (fun a U => a = #[(.int p1), (.long p2)] ∧ Z.Warmed39 U.vm ∧ U.heap = h0) (fun _ _ _ _ _ => True) (fun _ U o U' => ∃ v L, o = .returned v ∧ Q1 Z p1 p2  h0 n0 v U'.heap L ∧ FrameEnd U o U' L ({ frames := 0, cells := 0, slots := 0, locals := 0 } : Room).cells ({ frames := 0, cells := 0, slots := 0, locals := 0 } : Room).slots) := by
  refine MetFree.of_bodySF (plainFor_of_name pn_1) hisR ?_
  intro p e s m args below meth c s₁ Bd hml0 hP hK
  obtain ⟨rfl, hZ, hh⟩ := hP
  have hx := Bd.exec
  have hby := Bd.bytes
  have hlk := BodyLoose.notSynchronized Bd
  have hml : c.maxLocals = 3 := hml0
  have hown : s.vm.findClass "com/example/leafcode/leafcode/DecodingTable" = some m.cls := findClass_of_methodNamed Bd.named
  have hnm := (name_of_methodNamed Bd.named Bd.method).1
  have X0 : Stand p l e ({ frames := 0, cells := 0, slots := 0, locals := 0 } : Room) s m #[(.int p1), (.long p2)] below meth c s₁ [] 0 0 := Stand.of_body Bd
  have e0 : s₁.heap = h0 := by rw [← hh, Bd.state]; rfl
  have N0 := Fr.nil n0
  show OwnWp p e below s ({ frames := 0, cells := 0, slots := 0, locals := 0 } : Room).cells ({ frames := 0, cells := 0, slots := 0, locals := 0 } : Room).slots (Q1 Z p1 p2  h0 n0) (s₁.setTop (entryFrame m #[(.int p1), (.long p2)] 3))
  refine OwnWp.cast (ef_1 m p1 p2) ?_
  show OwnWp p e below s _ _ _ (s₁.setTop (mkF m 0 #[.val (.int p1), .val (.long p2), .second] []))
  obtain ⟨w1, qw1⟩ : ∃ z : Int32, z = ((XT.ushr p1 (8 : Int32)) + (XT.ushrL (p2 <<< ((12 : Int32).toInt64 &&& 63)) ((64 : Int32) - (p1 &&& (15 : Int32)))).toInt32) := ⟨_, rfl⟩
  refine OwnWp.step (U' := s₁.setTop (mkF m 18 #[.val (.int p1), .val (.long p2), .second] [(.int w1)])) (fun t k => ?_) ?_
  · show Steps p.tables e below (s₁.setTop (mkF m 0 #[.val (.int p1), .val (.long p2), .second] [])) _
    refine XS.iloadN X0.here hx rfl (hb hby d1_0) rfl ?_
    show Steps p.tables e below (s₁.setTop (mkF m 1 #[.val (.int p1), .val (.long p2), .second] [(.int p1)])) _
    refine XT.bipushV X0.here hx rfl (8 : Int32) (hb hby d1_1) rfl ?_
    show Steps p.tables e below (s₁.setTop (mkF m 3 #[.val (.int p1), .val (.long p2), .second] [(.int (8 : Int32)), (.int p1)])) _
    refine XT.iushr X0.here hx rfl (hb hby d1_3) rfl ?_
    show Steps p.tables e below (s₁.setTop (mkF m 4 #[.val (.int p1), .val (.long p2), .second] [(.int (XT.ushr p1 (8 : Int32)))])) _
    refine XT.lloadN X0.here hx rfl (hb hby d1_4) rfl ?_
    show Steps p.tables e below (s₁.setTop (mkF m 5 #[.val (.int p1), .val (.long p2), .second] [(.long p2), (.int (XT.ushr p1 (8 : Int32)))])) _
    refine XT.bipushV X0.here hx rfl (12 : Int32) (hb hby d1_5) rfl ?_
    show Steps p.tables e below (s₁.setTop (mkF m 7 #[.val (.int p1), .val (.long p2), .second] [(.int (12 : Int32)), (.long p2), (.int (XT.ushr p1 (8 : Int32)))])) _
    refine XT.lshl X0.here hx rfl (hb hby d1_7) rfl ?_
    show Steps p.tables e below (s₁.setTop (mkF m 8 #[.val (.int p1), .val (.long p2), .second] [(.long (p2 <<< ((12 : Int32).toInt64 &&& 63))), (.int (XT.ushr p1 (8 : Int32)))])) _
    refine XT.bipushV X0.here hx rfl (64 : Int32) (hb hby d1_8) rfl ?_
    show Steps p.tables e below (s₁.setTop (mkF m 10 #[.val (.int p1), .val (.long p2), .second] [(.int (64 : Int32)), (.long (p2 <<< ((12 : Int32).toInt64 &&& 63))), (.int (XT.ushr p1 (8 : Int32)))])) _
    refine XS.iloadN X0.here hx rfl (hb hby d1_10) rfl ?_
    show Steps p.tables e below (s₁.setTop (mkF m 11 #[.val (.int p1), .val (.long p2), .second] [(.int p1), (.int (64 : Int32)), (.long (p2 <<< ((12 : Int32).toInt64 &&& 63))), (.int (XT.ushr p1 (8 : Int32)))])) _
    refine XT.bipushV X0.here hx rfl (15 : Int32) (hb hby d1_11) rfl ?_
    show Steps p.tables e below (s₁.setTop (mkF m 13 #[.val (.int p1), .val (.long p2), .second] [(.int (15 : Int32)), (.int p1), (.int (64 : Int32)), (.long (p2 <<< ((12 : Int32).toInt64 &&& 63))), (.int (XT.ushr p1 (8 : Int32)))])) _
    refine XS.iand X0.here hx rfl (hb hby d1_13) rfl ?_
    show Steps p.tables e below (s₁.setTop (mkF m 14 #[.val (.int p1), .val (.long p2), .second] [(.int (p1 &&& (15 : Int32))), (.int (64 : Int32)), (.long (p2 <<< ((12 : Int32).toInt64 &&& 63))), (.int (XT.ushr p1 (8 : Int32)))])) _
    refine XS.isub X0.here hx rfl (hb hby d1_14) rfl ?_
    show Steps p.tables e below (s₁.setTop (mkF m 15 #[.val (.int p1), .val (.long p2), .second] [(.int ((64 : Int32) - (p1 &&& (15 : Int32)))), (.long (p2 <<< ((12 : Int32).toInt64 &&& 63))), (.int (XT.ushr p1 (8 : Int32)))])) _
    refine XT.lushr X0.here hx rfl (hb hby d1_15) rfl ?_
    show Steps p.tables e below (s₁.setTop (mkF m 16 #[.val (.int p1), .val (.long p2), .second] [(.long (XT.ushrL (p2 <<< ((12 : Int32).toInt64 &&& 63)) ((64 : Int32) - (p1 &&& (15 : Int32))))), (.int (XT.ushr p1 (8 : Int32)))])) _
    refine XT.l2i X0.here hx rfl (hb hby d1_16) rfl ?_
    show Steps p.tables e below (s₁.setTop (mkF m 17 #[.val (.int p1), .val (.long p2), .second] [(.int (XT.ushrL (p2 <<< ((12 : Int32).toInt64 &&& 63)) ((64 : Int32) - (p1 &&& (15 : Int32)))).toInt32), (.int (XT.ushr p1 (8 : Int32)))])) _
    refine XS.iadd X0.here hx rfl (hb hby d1_17) rfl ?_
    show Steps p.tables e below (s₁.setTop (mkF m 18 #[.val (.int p1), .val (.long p2), .second] [(.int ((XT.ushr p1 (8 : Int32)) + (XT.ushrL (p2 <<< ((12 : Int32).toInt64 &&& 63)) ((64 : Int32) - (p1 &&& (15 : Int32)))).toInt32))])) _
    rw [qw1] at k
    exact k
  refine OwnWp.retI X0 hx hlk Bd.returns (hb hby d1_18) (by decide) (by decide) ?_
  refine ⟨?_, N0, e0⟩
  show some (Value.int w1) = some (.int (own_f1 p1 p2))
  subst qw1
  unfold own_f1 own_f1_w1
  rfl
theorem own_sh (x : Int64) (k : Nat) (hk : k < 15) : XT.ushrL (x <<< ((12 : Int32).toInt64 &&& 63)) ((64 : Int32) - Int32.ofInt ((k : Int) + 1)) = XT.ushrL x ((52 : Int32) - Int32.ofInt ((k : Int) + 1)) &&& (((1 : Int64) <<< ((Int32.ofInt ((k : Int) + 1)).toInt64 &&& 63)) - (1 : Int64)) := by
  have e1 := c_lshl x 12 12 (by decide)
  rw [show ((12 : Int32) &&& 0x3f).toInt64 = (12 : Int32).toInt64 &&& 63 from by decide] at e1
  generalize x <<< ((12 : Int32).toInt64 &&& 63) = y at e1 ⊢
  have key : ∀ (e : Nat) (a b : Int32) (m : Int64), 1 ≤ e → e ≤ 15 → a.toBitVec.toNat % 64 = 64 - e → b.toBitVec.toNat % 64 = 52 - e → a.toInt64.toUInt64 &&& Int64.toUInt64 63 = (a &&& 0x3f).toInt64.toUInt64 → b.toInt64.toUInt64 &&& Int64.toUInt64 63 = (b &&& 0x3f).toInt64.toUInt64 → m.toBitVec.toNat = 2 ^ e - 1 →
      ((y.toInt % 18446744073709551616) / (2 ^ (64 - e) : Nat) = ((x.toInt % 18446744073709551616) / (2 ^ (52 - e) : Nat)) % (2 ^ e : Nat)) → XT.ushrL y a = XT.ushrL x b &&& m := by
    intro e a b m h1 h2 ha hb ra rb hm hh
    apply Int64.toInt_inj.mp
    unfold XT.ushrL
    rw [ra, rb, c_maskL _ m e (by omega) hm, c_lushr y a (64 - e) ha (by omega), c_lushr x b (52 - e) hb (by omega)]
    exact hh
  simp only [Nat.reducePow] at e1
  have hc : k = 0 ∨ k = 1 ∨ k = 2 ∨ k = 3 ∨ k = 4 ∨ k = 5 ∨ k = 6 ∨ k = 7 ∨ k = 8 ∨ k = 9 ∨ k = 10 ∨ k = 11 ∨ k = 12 ∨ k = 13 ∨ k = 14 := by omega
  rcases hc with rfl | rfl | rfl | rfl | rfl | rfl | rfl | rfl | rfl | rfl | rfl | rfl | rfl | rfl | rfl
  · exact key 1 _ _ _ (by decide) (by decide) (by decide) (by decide) (by decide) (by decide) (by decide) (by show _ / (9223372036854775808 : Int) = (_ / (2251799813685248 : Int)) % (2 : Int); omega)
  · exact key 2 _ _ _ (by decide) (by decide) (by decide) (by decide) (by decide) (by decide) (by decide) (by show _ / (4611686018427387904 : Int) = (_ / (1125899906842624 : Int)) % (4 : Int); omega)
  · exact key 3 _ _ _ (by decide) (by decide) (by decide) (by decide) (by decide) (by decide) (by decide) (by show _ / (2305843009213693952 : Int) = (_ / (562949953421312 : Int)) % (8 : Int); omega)
  · exact key 4 _ _ _ (by decide) (by decide) (by decide) (by decide) (by decide) (by decide) (by decide) (by show _ / (1152921504606846976 : Int) = (_ / (281474976710656 : Int)) % (16 : Int); omega)
  · exact key 5 _ _ _ (by decide) (by decide) (by decide) (by decide) (by decide) (by decide) (by decide) (by show _ / (576460752303423488 : Int) = (_ / (140737488355328 : Int)) % (32 : Int); omega)
  · exact key 6 _ _ _ (by decide) (by decide) (by decide) (by decide) (by decide) (by decide) (by decide) (by show _ / (288230376151711744 : Int) = (_ / (70368744177664 : Int)) % (64 : Int); omega)
  · exact key 7 _ _ _ (by decide) (by decide) (by decide) (by decide) (by decide) (by decide) (by decide) (by show _ / (144115188075855872 : Int) = (_ / (35184372088832 : Int)) % (128 : Int); omega)
  · exact key 8 _ _ _ (by decide) (by decide) (by decide) (by decide) (by decide) (by decide) (by decide) (by show _ / (72057594037927936 : Int) = (_ / (17592186044416 : Int)) % (256 : Int); omega)
  · exact key 9 _ _ _ (by decide) (by decide) (by decide) (by decide) (by decide) (by decide) (by decide) (by show _ / (36028797018963968 : Int) = (_ / (8796093022208 : Int)) % (512 : Int); omega)
  · exact key 10 _ _ _ (by decide) (by decide) (by decide) (by decide) (by decide) (by decide) (by decide) (by show _ / (18014398509481984 : Int) = (_ / (4398046511104 : Int)) % (1024 : Int); omega)
  · exact key 11 _ _ _ (by decide) (by decide) (by decide) (by decide) (by decide) (by decide) (by decide) (by show _ / (9007199254740992 : Int) = (_ / (2199023255552 : Int)) % (2048 : Int); omega)
  · exact key 12 _ _ _ (by decide) (by decide) (by decide) (by decide) (by decide) (by decide) (by decide) (by show _ / (4503599627370496 : Int) = (_ / (1099511627776 : Int)) % (4096 : Int); omega)
  · exact key 13 _ _ _ (by decide) (by decide) (by decide) (by decide) (by decide) (by decide) (by decide) (by show _ / (2251799813685248 : Int) = (_ / (549755813888 : Int)) % (8192 : Int); omega)
  · exact key 14 _ _ _ (by decide) (by decide) (by decide) (by decide) (by decide) (by decide) (by decide) (by show _ / (1125899906842624 : Int) = (_ / (274877906944 : Int)) % (16384 : Int); omega)
  · exact key 15 _ _ _ (by decide) (by decide) (by decide) (by decide) (by decide) (by decide) (by decide) (by show _ / (562949953421312 : Int) = (_ / (137438953472 : Int)) % (32768 : Int); omega)
theorem own_ent (p w : Int32) (h1 : 0 ≤ w.toInt) (h2 : w.toInt < 16) : ((p &&& ((-256) : Int32)) ||| w) &&& 15 = w ∧ XT.ushr ((p &&& ((-256) : Int32)) ||| w) 8 = XT.ushr p 8 := by
  obtain ⟨k, rfl⟩ := own_fin (n := 16) h1 h2
  have hall : ∀ k : Fin 16, (Int32.ofInt (k.1 : Int)).toBitVec &&& (15 : Int32).toBitVec = (Int32.ofInt (k.1 : Int)).toBitVec ∧ (Int32.ofInt (k.1 : Int)).toBitVec >>> 8 = 0#32 := by decide +kernel
  obtain ⟨a1, a2⟩ := hall k
  generalize Int32.ofInt (k.1 : Int) = w at a1 a2
  have us : ∀ x : Int32, (XT.ushr x 8).toBitVec = x.toBitVec >>> 8 := fun x => rfl
  constructor
  · apply Int32.toBitVec_inj.mp
    rw [Int32.toBitVec_and, Int32.toBitVec_or, Int32.toBitVec_and, BitVec.and_or_distrib_right, a1, BitVec.and_assoc, show ((-256) : Int32).toBitVec &&& (15 : Int32).toBitVec = 0#32 from by decide, BitVec.and_zero, BitVec.zero_or]
  · apply Int32.toBitVec_inj.mp
    rw [us, us, Int32.toBitVec_or, Int32.toBitVec_and, BitVec.ushiftRight_or_distrib, BitVec.ushiftRight_and_distrib, a2, BitVec.or_zero, show ((-256) : Int32).toBitVec >>> 8 = 16777215#32 from by decide]
    apply BitVec.eq_of_toNat_eq
    rw [BitVec.toNat_and, BitVec.toNat_ushiftRight, Nat.shiftRight_eq_div_pow, show (16777215#32).toNat = 2 ^ 24 - 1 from by decide, Nat.and_two_pow_sub_one_eq_mod]
    have := p.toBitVec.isLt
    omega

theorem pn_0 : plainName "com/example/leafcode/leafcode/DecodingTableSecondIndexPinLaw" = true := by first | (simp [plainName, overriddenIn]; done) | decide +kernel
theorem pd_0 : parseMethodDescriptor "(IIJ)Z" = some ⟨[.int, .int, .long], some .boolean⟩ := by decide +kernel
theorem ef_0 (m : MethodId) (x0 : Int32) (x1 : Int32) (x2 : Int64) : entryFrame m #[(.int x0), (.int x1), (.long x2)] maxLocals = mkF m 0 #[.val (.int x0), .val (.int x1), .val (.long x2), .second, .unset, .unset, .unset, .unset, .unset, .unset, .unset] [] := by first | (simp [entryFrame, mkF, argsToLocals, Value.category, maxLocals]; done) | rfl
theorem own_law (p1 : Int32) (p2 : Int32) (p3 : Int64) (w1 : Int32) (qw1 : w1 = ((1 : Int32) + ((p2 &&& (2147483647 : Int32)) % (15 : Int32)))) (w2 : Int32) (qw2 : w2 = ((p1 &&& ((-256) : Int32)) ||| w1)) (w3 : Int32) (qw3 : w3 = (XT.ushr p1 (8 : Int32))) (w4 : Int64) (qw4 : w4 = (XT.ushrL p3 ((52 : Int32) - w1))) (w5 : Int32) (qw5 : w5 = (w4 &&& (((1 : Int64) <<< (w1.toInt64 &&& 63)) - (1 : Int64))).toInt32) (w6 : Int32) (qw6 : w6 = (w3 + w5)) (w7 : Int32) (qw7 : w7 = (if (own_f1 w2 p3) = w6 then (1 : Int32) else (0 : Int32))) : w7 = 1 := by
  have e1 := c_mask p2 2147483647 31 (by decide) (by decide)
  have e2 := (c_irem (p2 &&& 2147483647) 15 15 (by decide)).1 (by omega)
  have e3 := c_iadd 1 ((p2 &&& 2147483647) % 15)
  rw [← qw1, show (1 : Int32).toInt = 1 from rfl] at e3
  have e4 := rng32 w1
  have hw : 1 ≤ w1.toInt ∧ w1.toInt < 16 := by omega
  obtain ⟨b1, b2⟩ := own_ent p1 w1 (by omega) hw.2
  rw [← qw2] at b1 b2
  have hk : w1 = Int32.ofInt (((w1.toInt - 1).toNat : Int) + 1) := by
    apply Int32.toInt_inj.mp
    rw [own_ofi (by omega) (by omega)]; omega
  have hsh := own_sh p3 (w1.toInt - 1).toNat (by omega)
  rw [← hk] at hsh
  have hf : own_f1 w2 p3 = w6 := by
    unfold own_f1 own_f1_w1
    rw [b1, b2, hsh, qw6, qw5, qw4, qw3]
  rw [qw7, if_pos hf]

def Q0 (Z : State) (p1 : Int32) (p2 : Int32) (p3 : Int64)  (h0 : Heap) (n0 : Nat) (v : Option Value) (h : Heap) (L : List Loc) : Prop := v = some (.int 1) ∧ Fr n0 L
set_option maxRecDepth 65536 in
set_option maxHeartbeats 40000000 in
theorem rm0 (l : Launch) (Z : State) (a0 : Array Value) (hw : ∀ d ∈ tables_1, d.before a0 Z = true) (ws : List Jvm.Cond) (p1 : Int32) (p2 : Int32) (p3 : Int64)  (h0 : Heap) (n0 : Nat) (Z0 : n0 ≤ h0.size)  :
    MetFree l x (head1 (Jvm.Cond.code x code maxLocals ret :: ws) room_1) (fun a U => a = #[(.int p1), (.int p2), (.long p3)] ∧ Z.Warmed39 U.vm ∧ U.heap = h0) (fun _ _ _ _ _ => True) (fun _ U o U' => ∃ v L, o = .returned v ∧ Q0 Z p1 p2 p3  h0 n0 v U'.heap L ∧ FrameEnd U o U' L room_1.cells room_1.slots) := by
  refine MetFree.of_bodySF (plainFor_of_name pn_0) hisR ?_
  intro p e s m args below meth c s₁ Bd hml0 hP hK
  obtain ⟨rfl, hZ, hh⟩ := hP
  have hx := Bd.exec
  have hby := Bd.bytes
  have hlk := BodyLoose.notSynchronized Bd
  have hml : c.maxLocals = 11 := hml0
  have hown : s.vm.findClass "com/example/leafcode/leafcode/DecodingTableSecondIndexPinLaw" = some m.cls := findClass_of_methodNamed Bd.named
  have hnm := (name_of_methodNamed Bd.named Bd.method).1
  have X0 : Stand p l e room_1 s m #[(.int p1), (.int p2), (.long p3)] below meth c s₁ [] 0 0 := Stand.of_body Bd
  have e0 : s₁.heap = h0 := by rw [← hh, Bd.state]; rfl
  have N0 := Fr.nil n0
  show OwnWp p e below s room_1.cells room_1.slots (Q0 Z p1 p2 p3  h0 n0) (s₁.setTop (entryFrame m #[(.int p1), (.int p2), (.long p3)] maxLocals))
  refine OwnWp.cast (ef_0 m p1 p2 p3) ?_
  show OwnWp p e below s _ _ _ (s₁.setTop (mkF m 0 #[.val (.int p1), .val (.int p2), .val (.long p3), .second, .unset, .unset, .unset, .unset, .unset, .unset, .unset] []))
  obtain ⟨w1, qw1⟩ : ∃ z : Int32, z = ((1 : Int32) + ((p2 &&& (2147483647 : Int32)) % (15 : Int32))) := ⟨_, rfl⟩
  refine OwnWp.step (U' := s₁.setTop (mkF m 11 #[.val (.int p1), .val (.int p2), .val (.long p3), .second, .val (.int w1), .unset, .unset, .unset, .unset, .unset, .unset] [])) (fun t k => ?_) ?_
  · show Steps p.tables e below (s₁.setTop (mkF m 0 #[.val (.int p1), .val (.int p2), .val (.long p3), .second, .unset, .unset, .unset, .unset, .unset, .unset, .unset] [])) _
    refine XT.iconstV X0.here hx rfl (1 : Int32) (hb hby at_0) rfl ?_
    show Steps p.tables e below (s₁.setTop (mkF m 1 #[.val (.int p1), .val (.int p2), .val (.long p3), .second, .unset, .unset, .unset, .unset, .unset, .unset, .unset] [(.int (1 : Int32))])) _
    refine XS.iloadN X0.here hx rfl (hb hby at_1) rfl ?_
    show Steps p.tables e below (s₁.setTop (mkF m 2 #[.val (.int p1), .val (.int p2), .val (.long p3), .second, .unset, .unset, .unset, .unset, .unset, .unset, .unset] [(.int p2), (.int (1 : Int32))])) _
    refine X0.ldcI hx hown (mvT hZ (hw _ (List.mem_of_getElem? (i := 0) rfl))) rfl (hb hby at_2) ?_
    show Steps p.tables e below (s₁.setTop (mkF m 4 #[.val (.int p1), .val (.int p2), .val (.long p3), .second, .unset, .unset, .unset, .unset, .unset, .unset, .unset] [(.int (2147483647 : Int32)), (.int p2), (.int (1 : Int32))])) _
    refine XS.iand X0.here hx rfl (hb hby at_4) rfl ?_
    show Steps p.tables e below (s₁.setTop (mkF m 5 #[.val (.int p1), .val (.int p2), .val (.long p3), .second, .unset, .unset, .unset, .unset, .unset, .unset, .unset] [(.int (p2 &&& (2147483647 : Int32))), (.int (1 : Int32))])) _
    refine XT.bipushV X0.here hx rfl (15 : Int32) (hb hby at_5) rfl ?_
    show Steps p.tables e below (s₁.setTop (mkF m 7 #[.val (.int p1), .val (.int p2), .val (.long p3), .second, .unset, .unset, .unset, .unset, .unset, .unset, .unset] [(.int (15 : Int32)), (.int (p2 &&& (2147483647 : Int32))), (.int (1 : Int32))])) _
    refine iremM X0 hx rfl (hb hby at_7) rfl (by decide) ?_
    show Steps p.tables e below (s₁.setTop (mkF m 8 #[.val (.int p1), .val (.int p2), .val (.long p3), .second, .unset, .unset, .unset, .unset, .unset, .unset, .unset] [(.int ((p2 &&& (2147483647 : Int32)) % (15 : Int32))), (.int (1 : Int32))])) _
    refine XS.iadd X0.here hx rfl (hb hby at_8) rfl ?_
    show Steps p.tables e below (s₁.setTop (mkF m 9 #[.val (.int p1), .val (.int p2), .val (.long p3), .second, .unset, .unset, .unset, .unset, .unset, .unset, .unset] [(.int ((1 : Int32) + ((p2 &&& (2147483647 : Int32)) % (15 : Int32))))])) _
    refine XS.istore X0.here hx rfl (hb hby at_9) rfl (l' := #[.val (.int p1), .val (.int p2), .val (.long p3), .second, .val (.int ((1 : Int32) + ((p2 &&& (2147483647 : Int32)) % (15 : Int32)))), .unset, .unset, .unset, .unset, .unset, .unset]) rfl ?_
    show Steps p.tables e below (s₁.setTop (mkF m 11 #[.val (.int p1), .val (.int p2), .val (.long p3), .second, .val (.int ((1 : Int32) + ((p2 &&& (2147483647 : Int32)) % (15 : Int32)))), .unset, .unset, .unset, .unset, .unset, .unset] [])) _
    rw [qw1] at k
    exact k
  obtain ⟨w2, qw2⟩ : ∃ z : Int32, z = ((p1 &&& ((-256) : Int32)) ||| w1) := ⟨_, rfl⟩
  refine OwnWp.step (U' := s₁.setTop (mkF m 21 #[.val (.int p1), .val (.int p2), .val (.long p3), .second, .val (.int w1), .val (.int w2), .unset, .unset, .unset, .unset, .unset] [])) (fun t k => ?_) ?_
  · show Steps p.tables e below (s₁.setTop (mkF m 11 #[.val (.int p1), .val (.int p2), .val (.long p3), .second, .val (.int w1), .unset, .unset, .unset, .unset, .unset, .unset] [])) _
    refine XS.iloadN X0.here hx rfl (hb hby at_11) rfl ?_
    show Steps p.tables e below (s₁.setTop (mkF m 12 #[.val (.int p1), .val (.int p2), .val (.long p3), .second, .val (.int w1), .unset, .unset, .unset, .unset, .unset, .unset] [(.int p1)])) _
    refine XT.sipushV X0.here hx rfl ((-256) : Int32) (hb hby at_12) rfl ?_
    show Steps p.tables e below (s₁.setTop (mkF m 15 #[.val (.int p1), .val (.int p2), .val (.long p3), .second, .val (.int w1), .unset, .unset, .unset, .unset, .unset, .unset] [(.int ((-256) : Int32)), (.int p1)])) _
    refine XS.iand X0.here hx rfl (hb hby at_15) rfl ?_
    show Steps p.tables e below (s₁.setTop (mkF m 16 #[.val (.int p1), .val (.int p2), .val (.long p3), .second, .val (.int w1), .unset, .unset, .unset, .unset, .unset, .unset] [(.int (p1 &&& ((-256) : Int32)))])) _
    refine XS.iload X0.here hx rfl (hb hby at_16) rfl ?_
    show Steps p.tables e below (s₁.setTop (mkF m 18 #[.val (.int p1), .val (.int p2), .val (.long p3), .second, .val (.int w1), .unset, .unset, .unset, .unset, .unset, .unset] [(.int w1), (.int (p1 &&& ((-256) : Int32)))])) _
    refine XT.ior X0.here hx rfl (hb hby at_18) rfl ?_
    show Steps p.tables e below (s₁.setTop (mkF m 19 #[.val (.int p1), .val (.int p2), .val (.long p3), .second, .val (.int w1), .unset, .unset, .unset, .unset, .unset, .unset] [(.int ((p1 &&& ((-256) : Int32)) ||| w1))])) _
    refine XS.istore X0.here hx rfl (hb hby at_19) rfl (l' := #[.val (.int p1), .val (.int p2), .val (.long p3), .second, .val (.int w1), .val (.int ((p1 &&& ((-256) : Int32)) ||| w1)), .unset, .unset, .unset, .unset, .unset]) rfl ?_
    show Steps p.tables e below (s₁.setTop (mkF m 21 #[.val (.int p1), .val (.int p2), .val (.long p3), .second, .val (.int w1), .val (.int ((p1 &&& ((-256) : Int32)) ||| w1)), .unset, .unset, .unset, .unset, .unset] [])) _
    rw [qw2] at k
    exact k
  obtain ⟨w3, qw3⟩ : ∃ z : Int32, z = (XT.ushr p1 (8 : Int32)) := ⟨_, rfl⟩
  refine OwnWp.step (U' := s₁.setTop (mkF m 27 #[.val (.int p1), .val (.int p2), .val (.long p3), .second, .val (.int w1), .val (.int w2), .val (.int w3), .unset, .unset, .unset, .unset] [])) (fun t k => ?_) ?_
  · show Steps p.tables e below (s₁.setTop (mkF m 21 #[.val (.int p1), .val (.int p2), .val (.long p3), .second, .val (.int w1), .val (.int w2), .unset, .unset, .unset, .unset, .unset] [])) _
    refine XS.iloadN X0.here hx rfl (hb hby at_21) rfl ?_
    show Steps p.tables e below (s₁.setTop (mkF m 22 #[.val (.int p1), .val (.int p2), .val (.long p3), .second, .val (.int w1), .val (.int w2), .unset, .unset, .unset, .unset, .unset] [(.int p1)])) _
    refine XT.bipushV X0.here hx rfl (8 : Int32) (hb hby at_22) rfl ?_
    show Steps p.tables e below (s₁.setTop (mkF m 24 #[.val (.int p1), .val (.int p2), .val (.long p3), .second, .val (.int w1), .val (.int w2), .unset, .unset, .unset, .unset, .unset] [(.int (8 : Int32)), (.int p1)])) _
    refine XT.iushr X0.here hx rfl (hb hby at_24) rfl ?_
    show Steps p.tables e below (s₁.setTop (mkF m 25 #[.val (.int p1), .val (.int p2), .val (.long p3), .second, .val (.int w1), .val (.int w2), .unset, .unset, .unset, .unset, .unset] [(.int (XT.ushr p1 (8 : Int32)))])) _
    refine XS.istore X0.here hx rfl (hb hby at_25) rfl (l' := #[.val (.int p1), .val (.int p2), .val (.long p3), .second, .val (.int w1), .val (.int w2), .val (.int (XT.ushr p1 (8 : Int32))), .unset, .unset, .unset, .unset]) rfl ?_
    show Steps p.tables e below (s₁.setTop (mkF m 27 #[.val (.int p1), .val (.int p2), .val (.long p3), .second, .val (.int w1), .val (.int w2), .val (.int (XT.ushr p1 (8 : Int32))), .unset, .unset, .unset, .unset] [])) _
    rw [qw3] at k
    exact k
  obtain ⟨w4, qw4⟩ : ∃ z : Int64, z = (XT.ushrL p3 ((52 : Int32) - w1)) := ⟨_, rfl⟩
  refine OwnWp.step (U' := s₁.setTop (mkF m 36 #[.val (.int p1), .val (.int p2), .val (.long p3), .second, .val (.int w1), .val (.int w2), .val (.int w3), .val (.long w4), .second, .unset, .unset] [])) (fun t k => ?_) ?_
  · show Steps p.tables e below (s₁.setTop (mkF m 27 #[.val (.int p1), .val (.int p2), .val (.long p3), .second, .val (.int w1), .val (.int w2), .val (.int w3), .unset, .unset, .unset, .unset] [])) _
    refine XT.lloadN X0.here hx rfl (hb hby at_27) rfl ?_
    show Steps p.tables e below (s₁.setTop (mkF m 28 #[.val (.int p1), .val (.int p2), .val (.long p3), .second, .val (.int w1), .val (.int w2), .val (.int w3), .unset, .unset, .unset, .unset] [(.long p3)])) _
    refine XT.bipushV X0.here hx rfl (52 : Int32) (hb hby at_28) rfl ?_
    show Steps p.tables e below (s₁.setTop (mkF m 30 #[.val (.int p1), .val (.int p2), .val (.long p3), .second, .val (.int w1), .val (.int w2), .val (.int w3), .unset, .unset, .unset, .unset] [(.int (52 : Int32)), (.long p3)])) _
    refine XS.iload X0.here hx rfl (hb hby at_30) rfl ?_
    show Steps p.tables e below (s₁.setTop (mkF m 32 #[.val (.int p1), .val (.int p2), .val (.long p3), .second, .val (.int w1), .val (.int w2), .val (.int w3), .unset, .unset, .unset, .unset] [(.int w1), (.int (52 : Int32)), (.long p3)])) _
    refine XS.isub X0.here hx rfl (hb hby at_32) rfl ?_
    show Steps p.tables e below (s₁.setTop (mkF m 33 #[.val (.int p1), .val (.int p2), .val (.long p3), .second, .val (.int w1), .val (.int w2), .val (.int w3), .unset, .unset, .unset, .unset] [(.int ((52 : Int32) - w1)), (.long p3)])) _
    refine XT.lushr X0.here hx rfl (hb hby at_33) rfl ?_
    show Steps p.tables e below (s₁.setTop (mkF m 34 #[.val (.int p1), .val (.int p2), .val (.long p3), .second, .val (.int w1), .val (.int w2), .val (.int w3), .unset, .unset, .unset, .unset] [(.long (XT.ushrL p3 ((52 : Int32) - w1)))])) _
    refine XT.lstore X0.here hx rfl (hb hby at_34) rfl (l' := #[.val (.int p1), .val (.int p2), .val (.long p3), .second, .val (.int w1), .val (.int w2), .val (.int w3), .val (.long (XT.ushrL p3 ((52 : Int32) - w1))), .second, .unset, .unset]) rfl ?_
    show Steps p.tables e below (s₁.setTop (mkF m 36 #[.val (.int p1), .val (.int p2), .val (.long p3), .second, .val (.int w1), .val (.int w2), .val (.int w3), .val (.long (XT.ushrL p3 ((52 : Int32) - w1))), .second, .unset, .unset] [])) _
    rw [qw4] at k
    exact k
  obtain ⟨w5, qw5⟩ : ∃ z : Int32, z = (w4 &&& (((1 : Int64) <<< (w1.toInt64 &&& 63)) - (1 : Int64))).toInt32 := ⟨_, rfl⟩
  refine OwnWp.step (U' := s₁.setTop (mkF m 48 #[.val (.int p1), .val (.int p2), .val (.long p3), .second, .val (.int w1), .val (.int w2), .val (.int w3), .val (.long w4), .second, .val (.int w5), .unset] [])) (fun t k => ?_) ?_
  · show Steps p.tables e below (s₁.setTop (mkF m 36 #[.val (.int p1), .val (.int p2), .val (.long p3), .second, .val (.int w1), .val (.int w2), .val (.int w3), .val (.long w4), .second, .unset, .unset] [])) _
    refine XT.lload X0.here hx rfl (hb hby at_36) rfl ?_
    show Steps p.tables e below (s₁.setTop (mkF m 38 #[.val (.int p1), .val (.int p2), .val (.long p3), .second, .val (.int w1), .val (.int w2), .val (.int w3), .val (.long w4), .second, .unset, .unset] [(.long w4)])) _
    refine XT.lconstV X0.here hx rfl (1 : Int64) (hb hby at_38) rfl ?_
    show Steps p.tables e below (s₁.setTop (mkF m 39 #[.val (.int p1), .val (.int p2), .val (.long p3), .second, .val (.int w1), .val (.int w2), .val (.int w3), .val (.long w4), .second, .unset, .unset] [(.long (1 : Int64)), (.long w4)])) _
    refine XS.iload X0.here hx rfl (hb hby at_39) rfl ?_
    show Steps p.tables e below (s₁.setTop (mkF m 41 #[.val (.int p1), .val (.int p2), .val (.long p3), .second, .val (.int w1), .val (.int w2), .val (.int w3), .val (.long w4), .second, .unset, .unset] [(.int w1), (.long (1 : Int64)), (.long w4)])) _
    refine XT.lshl X0.here hx rfl (hb hby at_41) rfl ?_
    show Steps p.tables e below (s₁.setTop (mkF m 42 #[.val (.int p1), .val (.int p2), .val (.long p3), .second, .val (.int w1), .val (.int w2), .val (.int w3), .val (.long w4), .second, .unset, .unset] [(.long ((1 : Int64) <<< (w1.toInt64 &&& 63))), (.long w4)])) _
    refine XT.lconstV X0.here hx rfl (1 : Int64) (hb hby at_42) rfl ?_
    show Steps p.tables e below (s₁.setTop (mkF m 43 #[.val (.int p1), .val (.int p2), .val (.long p3), .second, .val (.int w1), .val (.int w2), .val (.int w3), .val (.long w4), .second, .unset, .unset] [(.long (1 : Int64)), (.long ((1 : Int64) <<< (w1.toInt64 &&& 63))), (.long w4)])) _
    refine XT.lsub X0.here hx rfl (hb hby at_43) rfl ?_
    show Steps p.tables e below (s₁.setTop (mkF m 44 #[.val (.int p1), .val (.int p2), .val (.long p3), .second, .val (.int w1), .val (.int w2), .val (.int w3), .val (.long w4), .second, .unset, .unset] [(.long (((1 : Int64) <<< (w1.toInt64 &&& 63)) - (1 : Int64))), (.long w4)])) _
    refine XT.land X0.here hx rfl (hb hby at_44) rfl ?_
    show Steps p.tables e below (s₁.setTop (mkF m 45 #[.val (.int p1), .val (.int p2), .val (.long p3), .second, .val (.int w1), .val (.int w2), .val (.int w3), .val (.long w4), .second, .unset, .unset] [(.long (w4 &&& (((1 : Int64) <<< (w1.toInt64 &&& 63)) - (1 : Int64))))])) _
    refine XT.l2i X0.here hx rfl (hb hby at_45) rfl ?_
    show Steps p.tables e below (s₁.setTop (mkF m 46 #[.val (.int p1), .val (.int p2), .val (.long p3), .second, .val (.int w1), .val (.int w2), .val (.int w3), .val (.long w4), .second, .unset, .unset] [(.int (w4 &&& (((1 : Int64) <<< (w1.toInt64 &&& 63)) - (1 : Int64))).toInt32)])) _
    refine XS.istore X0.here hx rfl (hb hby at_46) rfl (l' := #[.val (.int p1), .val (.int p2), .val (.long p3), .second, .val (.int w1), .val (.int w2), .val (.int w3), .val (.long w4), .second, .val (.int (w4 &&& (((1 : Int64) <<< (w1.toInt64 &&& 63)) - (1 : Int64))).toInt32), .unset]) rfl ?_
    show Steps p.tables e below (s₁.setTop (mkF m 48 #[.val (.int p1), .val (.int p2), .val (.long p3), .second, .val (.int w1), .val (.int w2), .val (.int w3), .val (.long w4), .second, .val (.int (w4 &&& (((1 : Int64) <<< (w1.toInt64 &&& 63)) - (1 : Int64))).toInt32), .unset] [])) _
    rw [qw5] at k
    exact k
  obtain ⟨w6, qw6⟩ : ∃ z : Int32, z = (w3 + w5) := ⟨_, rfl⟩
  refine OwnWp.step (U' := s₁.setTop (mkF m 55 #[.val (.int p1), .val (.int p2), .val (.long p3), .second, .val (.int w1), .val (.int w2), .val (.int w3), .val (.long w4), .second, .val (.int w5), .val (.int w6)] [])) (fun t k => ?_) ?_
  · show Steps p.tables e below (s₁.setTop (mkF m 48 #[.val (.int p1), .val (.int p2), .val (.long p3), .second, .val (.int w1), .val (.int w2), .val (.int w3), .val (.long w4), .second, .val (.int w5), .unset] [])) _
    refine XS.iload X0.here hx rfl (hb hby at_48) rfl ?_
    show Steps p.tables e below (s₁.setTop (mkF m 50 #[.val (.int p1), .val (.int p2), .val (.long p3), .second, .val (.int w1), .val (.int w2), .val (.int w3), .val (.long w4), .second, .val (.int w5), .unset] [(.int w3)])) _
    refine XS.iload X0.here hx rfl (hb hby at_50) rfl ?_
    show Steps p.tables e below (s₁.setTop (mkF m 52 #[.val (.int p1), .val (.int p2), .val (.long p3), .second, .val (.int w1), .val (.int w2), .val (.int w3), .val (.long w4), .second, .val (.int w5), .unset] [(.int w5), (.int w3)])) _
    refine XS.iadd X0.here hx rfl (hb hby at_52) rfl ?_
    show Steps p.tables e below (s₁.setTop (mkF m 53 #[.val (.int p1), .val (.int p2), .val (.long p3), .second, .val (.int w1), .val (.int w2), .val (.int w3), .val (.long w4), .second, .val (.int w5), .unset] [(.int (w3 + w5))])) _
    refine XS.istore X0.here hx rfl (hb hby at_53) rfl (l' := #[.val (.int p1), .val (.int p2), .val (.long p3), .second, .val (.int w1), .val (.int w2), .val (.int w3), .val (.long w4), .second, .val (.int w5), .val (.int (w3 + w5))]) rfl ?_
    show Steps p.tables e below (s₁.setTop (mkF m 55 #[.val (.int p1), .val (.int p2), .val (.long p3), .second, .val (.int w1), .val (.int w2), .val (.int w3), .val (.long w4), .second, .val (.int w5), .val (.int (w3 + w5))] [])) _
    rw [qw6] at k
    exact k
  refine OwnWp.step (U' := s₁.setTop (mkF m 58 #[.val (.int p1), .val (.int p2), .val (.long p3), .second, .val (.int w1), .val (.int w2), .val (.int w3), .val (.long w4), .second, .val (.int w5), .val (.int w6)] [(.long p3), (.int w2)])) (fun t k => ?_) ?_
  · show Steps p.tables e below (s₁.setTop (mkF m 55 #[.val (.int p1), .val (.int p2), .val (.long p3), .second, .val (.int w1), .val (.int w2), .val (.int w3), .val (.long w4), .second, .val (.int w5), .val (.int w6)] [])) _
    refine XS.iload X0.here hx rfl (hb hby at_55) rfl ?_
    show Steps p.tables e below (s₁.setTop (mkF m 57 #[.val (.int p1), .val (.int p2), .val (.long p3), .second, .val (.int w1), .val (.int w2), .val (.int w3), .val (.long w4), .second, .val (.int w5), .val (.int w6)] [(.int w2)])) _
    refine XT.lloadN X0.here hx rfl (hb hby at_57) rfl ?_
    show Steps p.tables e below (s₁.setTop (mkF m 58 #[.val (.int p1), .val (.int p2), .val (.long p3), .second, .val (.int w1), .val (.int w2), .val (.int w3), .val (.long w4), .second, .val (.int w5), .val (.int w6)] [(.long p3), (.int w2)])) _
    exact k
  show OwnWp p e below s _ _ _ (s₁.setTop (mkF m 58 #[.val (.int p1), .val (.int p2), .val (.long p3), .second, .val (.int w1), .val (.int w2), .val (.int w3), .val (.long w4), .second, .val (.int w5), .val (.int w6)] [(.long p3), (.int w2)]))
  obtain ⟨_, _, ⟨T1, L1, k1, n1⟩, -, X1, ⟨Lc1, hQ1, l1, y1, z1⟩, st1⟩ := Jvm.LawKit.callS X0 hx (y := (⟨"com/example/leafcode/leafcode/DecodingTable", "secondIndex", "(IJ)I"⟩ : MethodName)) hown (mvT hZ (hw _ (List.mem_of_getElem? (i := 1) rfl))) (mvT hZ (hw _ (List.mem_of_getElem? (i := 2) rfl))) (mvT hZ (hw _ (List.mem_of_getElem? (i := 3) rfl))) (mvT hZ (hw _ (List.mem_of_getElem? (i := 4) rfl))) (by decide) (backOf (W := 0) (rm1 l Z a0 hw [] w2 p3 h0 n0 Z0 ) hZ (hw _ (List.mem_of_getElem? (i := 4) rfl)) (hw _ (List.mem_of_getElem? (i := 3) rfl)) (by decide) (by decide)) (g := (mkF m 58 #[.val (.int p1), .val (.int p2), .val (.long p3), .second, .val (.int w1), .val (.int w2), .val (.int w3), .val (.long w4), .second, .val (.int w5), .val (.int w6)] [(.long p3), (.int w2)])) rfl (by rw [hml]; rfl) (argsL := [(.int w2), (.long p3)]) (rest := []) (lenOf pd_1 rfl) rfl (by show 2 * 0 + _ ≤ _; exact Nat.le_of_eq rfl) (hb hby at_58) (fun _ _ => ⟨rfl, e0, (by dsimp only [Pt.cells]; decide), (by dsimp only [Pt.slots]; decide)⟩)
  dsimp only [Pt.U, Pt.locs, Pt.cells, Pt.slots] at X1 l1 y1 z1 st1 hQ1
  subst l1 y1 z1
  obtain ⟨rfl, Nc1, hp1⟩ := hQ1
  have N1 := Fr.app N0 Nc1
  refine OwnWp.step st1 ?_
  have eh1 : T1.heap = h0 := hp1
  show OwnWp p e below s _ _ _ (T1.setTop (mkF m 61 #[.val (.int p1), .val (.int p2), .val (.long p3), .second, .val (.int w1), .val (.int w2), .val (.int w3), .val (.long w4), .second, .val (.int w5), .val (.int w6)] [(.int (own_f1 w2 p3))]))
  refine OwnWp.step (U' := T1.setTop (mkF m 63 #[.val (.int p1), .val (.int p2), .val (.long p3), .second, .val (.int w1), .val (.int w2), .val (.int w3), .val (.long w4), .second, .val (.int w5), .val (.int w6)] [(.int w6), (.int (own_f1 w2 p3))])) (fun t k => ?_) ?_
  · show Steps p.tables e below (T1.setTop (mkF m 61 #[.val (.int p1), .val (.int p2), .val (.long p3), .second, .val (.int w1), .val (.int w2), .val (.int w3), .val (.long w4), .second, .val (.int w5), .val (.int w6)] [(.int (own_f1 w2 p3))])) _
    refine XS.iload X1.here hx rfl (hb hby at_61) rfl ?_
    show Steps p.tables e below (T1.setTop (mkF m 63 #[.val (.int p1), .val (.int p2), .val (.long p3), .second, .val (.int w1), .val (.int w2), .val (.int w3), .val (.long w4), .second, .val (.int w5), .val (.int w6)] [(.int w6), (.int (own_f1 w2 p3))])) _
    exact k
  obtain ⟨w7, qw7⟩ : ∃ z : Int32, z = (if (own_f1 w2 p3) = w6 then (1 : Int32) else (0 : Int32)) := ⟨_, rfl⟩
  refine OwnWp.step (U' := T1.setTop (mkF m 71 #[.val (.int p1), .val (.int p2), .val (.long p3), .second, .val (.int w1), .val (.int w2), .val (.int w3), .val (.long w4), .second, .val (.int w5), .val (.int w6)] [(.int w7)])) (fun t k => ?_) ?_
  · show Steps p.tables e below (T1.setTop (mkF m 63 #[.val (.int p1), .val (.int p2), .val (.long p3), .second, .val (.int w1), .val (.int w2), .val (.int w3), .val (.long w4), .second, .val (.int w5), .val (.int w6)] [(.int w6), (.int (own_f1 w2 p3))])) _
    by_cases c63_2 : (own_f1 w2 p3) = w6
    · refine XS.icmpNo X1.here hx rfl (hb hby at_63) rfl (XT.ii_ne_f c63_2) ?_
      show Steps p.tables e below (T1.setTop (mkF m 66 #[.val (.int p1), .val (.int p2), .val (.long p3), .second, .val (.int w1), .val (.int w2), .val (.int w3), .val (.long w4), .second, .val (.int w5), .val (.int w6)] [])) _
      refine XT.iconstV X1.here hx rfl (1 : Int32) (hb hby at_66) rfl ?_
      show Steps p.tables e below (T1.setTop (mkF m 67 #[.val (.int p1), .val (.int p2), .val (.long p3), .second, .val (.int w1), .val (.int w2), .val (.int w3), .val (.long w4), .second, .val (.int w5), .val (.int w6)] [(.int (1 : Int32))])) _
      refine XS.goto X1.here hx rfl (pc0 := 67) (pc' := 71) rfl (hb hby at_67) (by decide) (by decide) ?_
      show Steps p.tables e below (T1.setTop (mkF m 71 #[.val (.int p1), .val (.int p2), .val (.long p3), .second, .val (.int w1), .val (.int w2), .val (.int w3), .val (.long w4), .second, .val (.int w5), .val (.int w6)] [(.int (1 : Int32))])) _
      rw [show w7 = (1 : Int32) from by rw [qw7, if_pos c63_2]] at k
      exact k
    · refine XS.icmpYes X1.here hx rfl (pc0 := 63) (pc' := 70) rfl (hb hby at_63) rfl (XT.ii_ne_t c63_2) (by decide) (by decide) ?_
      show Steps p.tables e below (T1.setTop (mkF m 70 #[.val (.int p1), .val (.int p2), .val (.long p3), .second, .val (.int w1), .val (.int w2), .val (.int w3), .val (.long w4), .second, .val (.int w5), .val (.int w6)] [])) _
      refine XT.iconstV X1.here hx rfl (0 : Int32) (hb hby at_70) rfl ?_
      show Steps p.tables e below (T1.setTop (mkF m 71 #[.val (.int p1), .val (.int p2), .val (.long p3), .second, .val (.int w1), .val (.int w2), .val (.int w3), .val (.long w4), .second, .val (.int w5), .val (.int w6)] [(.int (0 : Int32))])) _
      rw [show w7 = (0 : Int32) from by rw [qw7, if_neg c63_2]] at k
      exact k
  have hfin := (own_law p1 p2 p3 w1 qw1 w2 qw2 w3 qw3 w4 qw4 w5 qw5 w6 qw6 w7 qw7)
  refine OwnWp.retZ X1 hx hlk Bd.returns (hb hby at_71) (by decide) (by decide) (Or.inr hfin) ?_
  exact ⟨by rw [hfin], N1⟩
set_option maxRecDepth 65536 in
set_option maxHeartbeats 40000000 in
theorem comes_1 {Post : Tables → Env → Array Value → State → Outcome → State → Prop} (hpost : ∀ tb e args s v u, (limb_1_1.after args s (.returned v) u = true ∧ limb_1_2.after args s (.returned v) u = true ∧ True) → FrameEnd s (.returned v) u (Jvm.fieldLocs frame_1_writes args s ++ Jvm.arrayLocs frame_1_arrays args s ++ Jvm.staticLocs frame_1_statics s) 0 0 → Post tb e args s (.returned v) u) :
    ArmFor flags0 classFile x code maxLocals ret World_1 tables_1 room_1 Calls_1 rest_1 Pre_1 Post := by
  intro l hfl _ _ p e ha hc hk s m args below hf hA hF happ hP
  obtain ⟨hcalls, hrest, hpre⟩ := hP
  obtain ⟨-, -, -, hnamed, -, -, -, hat⟩ := (Spec.applies_iff hf).mp happ
  obtain ⟨hg, hn⟩ := and_e (Cond.before_iff.mp (show (Jvm.Cond.and given_1 narrow_1).before args s = true from hpre))
  obtain ⟨hcount, g0⟩ := and_e hg
  obtain ⟨w0, w1, w2, rfl⟩ : ∃ w0 w1 w2 : Value, args = #[w0, w1, w2] := by
    have hs : args.size = 3 := by simpa [Cond.value, given_1] using hcount
    obtain ⟨L⟩ := args
    match L, hs with
    | [w0, w1, w2], _ => exact ⟨w0, w1, w2, rfl⟩
  have hw := fun d (hd : d ∈ tables_1) => atoms_spec (ws := Jvm.Cond.code x code maxLocals ret :: tables_1) hat d (List.mem_cons_of_mem _ hd)
  obtain ⟨u0, g1⟩ := and_e g0
  obtain ⟨i0, e0⟩ := is_v u0
  obtain rfl : w0 = (.int i0) := Option.some.inj e0
  obtain ⟨u1, g2⟩ := and_e g1
  obtain ⟨i1, e1⟩ := is_v u1
  obtain rfl : w1 = (.int i1) := Option.some.inj e1
  obtain ⟨i2, e2⟩ := isL_v g2
  obtain rfl : w2 = (.long i2) := Option.some.inj e2
  obtain ⟨n, o, h1, h2, h3, _, L, rfl, ⟨rfl, N⟩, hq⟩ := rm0 l s _ hw tables_1 i0 i1 i2 s.heap s.heap.size (Nat.le_refl _) p e ha hc hk s m _ below hf ((Spec.applies_iff_loose hf).mp happ).1 ⟨rfl, State.Warmed39.refl s, rfl⟩ trivial
  refine ⟨n, _, h1, h2, h3, hpost _ _ _ _ _ _ ⟨Cond.after_iff.mpr rfl, Cond.after_iff.mpr (eq_i res_at (Term.int_eval (1)) rfl), trivial⟩ ⟨hq.1, hq.2.1, (hq.2.2.sift fun y hy => Or.inr (N y hy)).mono (by decide) (by decide)⟩⟩
theorem main_1_1 : Claimed_1_1 := comes_1 fun _ _ _ _ _ _ h hF => ⟨h.1, hF⟩
theorem main_1_2 : Claimed_1_2 := comes_1 fun _ _ _ _ _ _ h hF => ⟨h.2.1, hF⟩
end Jvm.Pilot.@@N@@
namespace Jvm.Pilot.@@N@@
open Jvm Jvm.ClassFile Sem Op Lib Jvm.Free Jvm.Stand Jvm.Pilot.@@N@@.Jvm.D
/-! MADE BY PROGRAM (witnessworld.py) out of the Statement's table words and the real class files: 9 classes; the members and pool entries that the words name. The judged class is class 1, her method 1. -/
namespace start1
open Jvm.ClassFile
def u (s : String) : CpInfo := .utf8 (stringToUtf16 s)
/-- a pool by its gaps: so many unusable entries, then the entry; so many at the end -/
def gap : Nat → List CpInfo → List CpInfo
  | 0, r => r
  | n + 1, r => .unusable :: gap n r
def poolList (es : List (Nat × CpInfo)) (last : Nat) : List CpInfo := es.foldr (fun e r => gap e.1 (e.2 :: r)) (gap last [])
def pool (es : List (Nat × CpInfo)) (last : Nat) : Array CpInfo := ⟨poolList es last⟩
def fileOf (pool : Array CpInfo) (this : Nat) (attrs : Array Attribute := #[]) (ms : Array MethodInfo := #[]) (fl : Nat := 33) (sup : Nat := 0) (ifs : Array Nat := #[]) (fds : Array FieldInfo := #[]) : ClassFile where
  minorVersion := 0
  majorVersion := 65
  constantPool := pool
  accessFlags := fl
  thisClass := this
  superClass := sup
  interfaces := ifs
  fields := fds
  methods := ms
  attributes := attrs
def plain (name : String) (sup : Option ClassId) : Class where
  name := name
  kind := .ordinary
  loader := none
  accessFlags := 33
  super := sup
  interfaces := #[]
  cf := none
  fields := #[]
  methods := #[]
  instanceTypes := #[]
  staticTypes := #[]
  resolved := #[]
  callSites := []
  init := .initialized
  statics := none
  mirror := none

def pool0 : Array CpInfo := pool [(5, u "<init>"), (0, u "()V"), (1, .class_ 10), (1, u "java/lang/Object")] 113

def k0m0 : Method := { name := "<init>", desc := "()V", sig := { parameters := [], returnType := none }, accessFlags := 1, code := none }
/-- java/lang/Object -/
def k0 : Class := { plain "java/lang/Object" none with
  accessFlags := 33
  interfaces := #[]
  cf := some (fileOf pool0 8 #[] #[{ accessFlags := 1, nameIndex := 5, descriptorIndex := 6, attributes := #[] }] 33 0 #[] #[])
  fields := #[]
  methods := #[k0m0]
  instanceTypes := #[]
  staticTypes := #[]
  resolved := Array.replicate 124 none
  statics := none }

def pool1 : Array CpInfo := pool [(2, .class_ 4), (1, u "java/lang/Object"), (0, u "<init>"), (0, u "()V"), (0, .integer 2147483647), (0, .methodref 9 10), (0, .class_ 11), (0, .nameAndType 12 13), (0, u "com/example/leafcode/leafcode/DecodingTable"), (0, u "secondIndex"), (0, u "(IJ)I"), (0, .class_ 15), (0, u "com/example/leafcode/leafcode/DecodingTableSecondIndexPinLaw"), (2, u "law"), (0, u "(IIJ)Z")] 3

def k1m0 : Method := { name := "<init>", desc := "()V", sig := { parameters := [], returnType := none }, accessFlags := 1, code := none }
def k1c1 : Code := { maxStack := 6, maxLocals := 11, code := code, exceptionTable := #[], attributes := #[] }
def k1m1 : Method := { name := "law", desc := "(IIJ)Z", sig := { parameters := [.int, .int, .long], returnType := some .boolean }, accessFlags := 9, code := some k1c1 }
/-- com/example/leafcode/leafcode/DecodingTableSecondIndexPinLaw -/
def k1 : Class := { plain "com/example/leafcode/leafcode/DecodingTableSecondIndexPinLaw" (some 0) with
  accessFlags := 49
  interfaces := #[]
  cf := some (fileOf pool1 14 #[] #[{ accessFlags := 1, nameIndex := 5, descriptorIndex := 6, attributes := #[] }, { accessFlags := 9, nameIndex := 18, descriptorIndex := 19, attributes := #[] }] 49 2 #[] #[])
  fields := #[]
  methods := #[k1m0, k1m1]
  instanceTypes := #[]
  staticTypes := #[]
  resolved := Array.replicate 23 none
  statics := none }

def pool2 : Array CpInfo := pool [(4, .class_ 6), (1, u "java/lang/Object"), (0, u "<init>"), (0, u "()V"), (1, .class_ 12), (1, u "com/example/leafcode/leafcode/DecodingTable"), (0, u "entries"), (0, u "[I"), (2, u "order"), (2, u "laneCounts"), (2, u "places"), (2, u "follows"), (2, u "lasts"), (26, u "longest"), (0, u "I"), (2, u "codeLengths"), (2, u "firstBits"), (8, u "width"), (6, u "expectedBits"), (2, u "shortest"), (34, u "BLOCK_BITS"), (2, u "MOST_CODES"), (1, u "EXPECTED_SHIFT"), (1, u "NO_CODE"), (1, u "CODES"), (1, u "FEW_BITS"), (1, u "BULK"), (1, u "LANES"), (0, u "LANE"), (6, u "secondIndex"), (0, u "(IJ)I")] 19

def k2m0 : Method := { name := "<init>", desc := "()V", sig := { parameters := [], returnType := none }, accessFlags := 0, code := none }
def k2c1 : Code := { maxStack := 6, maxLocals := 3, code := prog_6_method_8_code, exceptionTable := #[], attributes := #[] }
def k2m1 : Method := { name := "secondIndex", desc := "(IJ)I", sig := { parameters := [.int, .long], returnType := some .int }, accessFlags := 8, code := some k2c1 }
/-- com/example/leafcode/leafcode/DecodingTable -/
def k2 : Class := { plain "com/example/leafcode/leafcode/DecodingTable" (some 0) with
  accessFlags := 48
  interfaces := #[]
  cf := some (fileOf pool2 10 #[] #[{ accessFlags := 0, nameIndex := 7, descriptorIndex := 8, attributes := #[] }, { accessFlags := 8, nameIndex := 140, descriptorIndex := 141, attributes := #[] }] 48 4 #[] #[{ accessFlags := 24, nameIndex := 117, descriptorIndex := 57, attributes := #[] }, { accessFlags := 24, nameIndex := 120, descriptorIndex := 57, attributes := #[] }, { accessFlags := 24, nameIndex := 122, descriptorIndex := 57, attributes := #[] }, { accessFlags := 24, nameIndex := 124, descriptorIndex := 57, attributes := #[] }, { accessFlags := 24, nameIndex := 126, descriptorIndex := 57, attributes := #[] }, { accessFlags := 26, nameIndex := 128, descriptorIndex := 57, attributes := #[] }, { accessFlags := 26, nameIndex := 130, descriptorIndex := 57, attributes := #[] }, { accessFlags := 0, nameIndex := 13, descriptorIndex := 14, attributes := #[] }, { accessFlags := 0, nameIndex := 63, descriptorIndex := 57, attributes := #[] }, { accessFlags := 0, nameIndex := 72, descriptorIndex := 57, attributes := #[] }, { accessFlags := 0, nameIndex := 79, descriptorIndex := 57, attributes := #[] }, { accessFlags := 2, nameIndex := 60, descriptorIndex := 14, attributes := #[] }, { accessFlags := 18, nameIndex := 17, descriptorIndex := 14, attributes := #[] }, { accessFlags := 26, nameIndex := 132, descriptorIndex := 57, attributes := #[] }, { accessFlags := 26, nameIndex := 133, descriptorIndex := 57, attributes := #[] }, { accessFlags := 18, nameIndex := 20, descriptorIndex := 14, attributes := #[] }, { accessFlags := 18, nameIndex := 23, descriptorIndex := 14, attributes := #[] }, { accessFlags := 2, nameIndex := 82, descriptorIndex := 57, attributes := #[] }, { accessFlags := 2, nameIndex := 56, descriptorIndex := 57, attributes := #[] }, { accessFlags := 2, nameIndex := 26, descriptorIndex := 14, attributes := #[] }, { accessFlags := 2, nameIndex := 29, descriptorIndex := 14, attributes := #[] }])
  fields := #[{ name := "BLOCK_BITS", type := .int, accessFlags := 24, slot := 0, constantValue := 0 }, { name := "MOST_CODES", type := .int, accessFlags := 24, slot := 1, constantValue := 0 }, { name := "EXPECTED_SHIFT", type := .int, accessFlags := 24, slot := 2, constantValue := 0 }, { name := "NO_CODE", type := .int, accessFlags := 24, slot := 3, constantValue := 0 }, { name := "CODES", type := .int, accessFlags := 24, slot := 4, constantValue := 0 }, { name := "FEW_BITS", type := .int, accessFlags := 26, slot := 5, constantValue := 0 }, { name := "BULK", type := .int, accessFlags := 26, slot := 6, constantValue := 0 }, { name := "entries", type := (.array .int), accessFlags := 0, slot := 0, constantValue := 0 }, { name := "firstBits", type := .int, accessFlags := 0, slot := 1, constantValue := 0 }, { name := "width", type := .int, accessFlags := 0, slot := 2, constantValue := 0 }, { name := "expectedBits", type := .int, accessFlags := 0, slot := 3, constantValue := 0 }, { name := "codeLengths", type := (.array .int), accessFlags := 2, slot := 4, constantValue := 0 }, { name := "order", type := (.array .int), accessFlags := 18, slot := 5, constantValue := 0 }, { name := "LANES", type := .int, accessFlags := 26, slot := 7, constantValue := 0 }, { name := "LANE", type := .int, accessFlags := 26, slot := 8, constantValue := 0 }, { name := "laneCounts", type := (.array .int), accessFlags := 18, slot := 6, constantValue := 0 }, { name := "places", type := (.array .int), accessFlags := 18, slot := 7, constantValue := 0 }, { name := "shortest", type := .int, accessFlags := 2, slot := 8, constantValue := 0 }, { name := "longest", type := .int, accessFlags := 2, slot := 9, constantValue := 0 }, { name := "follows", type := (.array .int), accessFlags := 2, slot := 10, constantValue := 0 }, { name := "lasts", type := (.array .int), accessFlags := 2, slot := 11, constantValue := 0 }]
  methods := #[k2m0, k2m1]
  instanceTypes := #[(.array .int), .int, .int, .int, (.array .int), (.array .int), (.array .int), (.array .int), .int, .int, (.array .int), (.array .int)]
  staticTypes := #[.int, .int, .int, .int, .int, .int, .int, .int, .int]
  resolved := Array.replicate 161 none
  statics := none }

def pool3 : Array CpInfo := pool [(1, u "java/lang/Cloneable"), (0, .class_ 1), (0, u "java/lang/Object"), (0, .class_ 3)] 3

/-- java/lang/Cloneable -/
def k3 : Class := { plain "java/lang/Cloneable" (some 0) with
  accessFlags := 1537
  interfaces := #[]
  cf := some (fileOf pool3 2 #[] #[] 1537 4 #[] #[])
  fields := #[]
  methods := #[]
  instanceTypes := #[]
  staticTypes := #[]
  resolved := Array.replicate 8 none
  statics := none }

def pool4 : Array CpInfo := pool [(1, u "java/io/Serializable"), (0, .class_ 1), (0, u "java/lang/Object"), (0, .class_ 3)] 3

/-- java/io/Serializable -/
def k4 : Class := { plain "java/io/Serializable" (some 0) with
  accessFlags := 1537
  interfaces := #[]
  cf := some (fileOf pool4 2 #[] #[] 1537 4 #[] #[])
  fields := #[]
  methods := #[]
  instanceTypes := #[]
  staticTypes := #[]
  resolved := Array.replicate 8 none
  statics := none }

/-- the primitive byte -/
def k5 : Class := { plain "byte" none with kind := .primitive 'B', accessFlags := 0x411 }
/-- [B -/
def k6 : Class := { plain "[B" (some 0) with kind := .array 5 .byte, interfaces := #[3, 4], accessFlags := 1041 }

/-- the primitive int -/
def k7 : Class := { plain "int" none with kind := .primitive 'I', accessFlags := 0x411 }
/-- [I -/
def k8 : Class := { plain "[I" (some 0) with kind := .array 7 .int, interfaces := #[3, 4], accessFlags := 1041 }

def heap : Heap := #[]
def classes : Array Class := #[k0, k1, k2, k3, k4, k5, k6, k7, k8]
def interned : List (Array UInt16 × Addr) := []
def slotsUsed : Nat := 0
def theMethod : MethodId := ⟨1, 1⟩
def args0 : Array Value := #[.int 5, .int 3, .long 7]
def aboutOver (below : List Frame) : State where
  vm := { classes := classes, interned := interned.toArray }
  heap := heap
  slotsUsed := slotsUsed
  threads := #[{ frames := .invoking theMethod args0 :: below }]
def below0 : List Frame := [.native { method := ⟨0, 0⟩, args := #[] }]
def about1 : State := aboutOver below0
def p0 : Program := .bare "" "" ""
def e0 : Env := launch0.env 0 0 0
theorem w_frames : about1.frames = Frame.invoking theMethod args0 :: below0 := rfl
set_option maxRecDepth 65536 in
theorem w_args : argsFit about1.vm theMethod args0 = true := by decide +kernel
set_option maxRecDepth 65536 in
theorem w_heap : heapFits about1 = true := by decide +kernel
set_option maxRecDepth 65536 in
theorem w_runnable : about1.curStatus? = some .runnable := by decide +kernel
set_option maxRecDepth 65536 in
theorem w_alone : about1.alone = true := by decide +kernel
set_option maxRecDepth 65536 in
theorem w_named : about1.methodNamed? x = some theMethod := by decide +kernel
set_option maxRecDepth 65536 in
theorem w_hears : about1.hears theMethod below0 = true := by decide +kernel
set_option maxRecDepth 65536 in
theorem w_ripe : about1.ripe theMethod args0 below0 = true := by decide +kernel
theorem w_running : about1.status = .running := rfl
set_option maxRecDepth 65536 in
theorem w_room : about1.hasRoom e0.platform room_1 = true :=
  launch0.hasRoom_least _ room_1 (by decide +kernel) (by decide +kernel) (by decide +kernel) (by decide +kernel) (by decide +kernel) (by decide +kernel)
theorem allAtoms_all (ts : List Jvm.Cond) (a : Array Jvm.Value) (st : Jvm.State) : (allAtoms ts).before a st = ts.all (fun c => c.before a st) := by
  induction ts with
  | nil => rfl
  | cons c t ih =>
    show (Jvm.Cond.and c (allAtoms t)).before a st = _
    rw [Jvm.Cond.before_and, ih, List.all_cons]
def words1 : List Jvm.Cond := Jvm.Cond.code x code maxLocals ret :: tables_1
/-- a 'code' word, met by the world's own term for the bytes: nothing is compared byte by byte -/
theorem code_word {y : MethodName} {bytes : ByteArray} {mx : Nat} {rt : Option FieldType} {a : Array Value} {s : State} {m : MethodId} {meth : Method} {c : Code} (h1 : s.methodNamed? y = some m) (h2 : s.vm.method? m = some meth) (h3 : meth.code = some c) (h4 : c.code = bytes)
    (h5 : (c.maxLocals == mx && c.exceptionTable.isEmpty && decide (c.maxStack ≤ mostOperands) && decide (meth.sig.returnType = rt) && !meth.locks && decide (parseMethodDescriptor y.desc = some meth.sig)) = true) : (Jvm.Cond.code y bytes mx rt).before a s = true := by
  simp only [Bool.and_eq_true, beq_iff_eq, Bool.not_eq_true', decide_eq_true_eq] at h5
  obtain ⟨⟨⟨⟨⟨g1, g2⟩, g3⟩, g4⟩, g5⟩, g6⟩ := h5
  simp [Cond.before, Cond.holds, Cond.value, h1, h2, h3, h4, g1, g2, g3, g4, g5, g6]
def isCode : Jvm.Cond → Bool
  | .code _ _ _ _ => true
  | _ => false
theorem all_split {L : List Jvm.Cond} {P : Jvm.Cond → Bool} (h1 : L.all (fun c => isCode c || P c) = true) (h2 : ∀ c ∈ L.filter isCode, P c = true) : L.all P = true := by
  refine List.all_eq_true.mpr fun c hc => ?_
  have h := List.all_eq_true.mp h1 c hc
  rcases Bool.eq_false_or_eq_true (isCode c) with hi | hi
  · exact h2 c (List.mem_filter.mpr ⟨hc, hi⟩)
  · simpa [hi] using h
set_option maxRecDepth 65536 in
theorem w_c0 : (Jvm.Cond.code x code maxLocals ret).before args0 about1 = true := code_word (m := ⟨1, 1⟩) (meth := k1m1) (c := k1c1) (by decide +kernel) rfl rfl rfl (by decide +kernel)
set_option maxRecDepth 65536 in
theorem w_c1 : (Jvm.Cond.code ({ cls := "com/example/leafcode/leafcode/DecodingTable", name := "secondIndex", desc := "(IJ)I" } : Jvm.MethodName) prog_6_method_8_code (3 : Nat) (Option.some Jvm.ClassFile.FieldType.int)).before args0 about1 = true := code_word (m := ⟨2, 1⟩) (meth := k2m1) (c := k2c1) (by decide +kernel) rfl rfl rfl (by decide +kernel)
def codes1 : List Jvm.Cond := [Jvm.Cond.code x code maxLocals ret, Jvm.Cond.code ({ cls := "com/example/leafcode/leafcode/DecodingTable", name := "secondIndex", desc := "(IJ)I" } : Jvm.MethodName) prog_6_method_8_code (3 : Nat) (Option.some Jvm.ClassFile.FieldType.int)]
set_option maxRecDepth 65536 in
theorem codes_eq : words1.filter isCode = codes1 := rfl
theorem w_codes : ∀ c ∈ words1.filter isCode, c.before args0 about1 = true := by
  rw [codes_eq]
  intro c hc
  simp only [codes1, List.mem_cons, List.not_mem_nil, or_false] at hc
  rcases hc with rfl | rfl
  · exact w_c0
  · exact w_c1
set_option maxRecDepth 65536 in
theorem w_t1 : words1.all (fun c => isCode c || c.before args0 about1) = true := by decide +kernel
theorem w_tables : (allAtoms (Jvm.Cond.code x code maxLocals ret :: tables_1)).before args0 about1 = true := by
  rw [allAtoms_all]
  show words1.all (fun c => c.before args0 about1) = true
  refine all_split ?_ w_codes
  rw [w_t1]
set_option maxRecDepth 65536 in
theorem w_case : (Jvm.Cond.and given_1 narrow_1).before args0 about1 = true := by decide +kernel
theorem w_applies : (headSpec (Jvm.Cond.code x code maxLocals ret :: tables_1) room_1).applies x e0.platform about1 = true :=
  (Spec.applies_iff w_frames).mpr ⟨w_running, w_runnable, w_alone, w_named, w_hears, w_ripe, w_room, w_tables⟩
theorem atStart : AtStart classFile x code maxLocals ret World_1 tables_1 room_1 Calls_1 rest_1 Pre_1 launch0 p0 e0 about1 theMethod args0 below0 :=
  ⟨lists_1, trivial, launch0.admits_env _ _ _, launch0.least_env, fairChoices_fair.cas, fairChoices_fair.clock, w_frames, w_args, w_heap, w_applies, trivial, trivial, w_case⟩
end start1
theorem witness_1 : WitnessClaimed_1 := ⟨start1.p0, start1.e0, start1.about1, start1.theMethod, start1.args0, start1.below0, start1.atStart⟩
end Jvm.Pilot.@@N@@
