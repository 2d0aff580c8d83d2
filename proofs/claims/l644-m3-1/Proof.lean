import JvmDerived
import JvmDerived.Pilot.@@N@@Statement
import JvmDerived.Pilot.@@N@@Code
set_option linter.unusedVariables false
set_option linter.unusedSimpArgs false
namespace Jvm.Pilot.@@N@@
open Jvm Jvm.ClassFile Sem Op Lib Jvm.Free Jvm.Stand Jvm.LawKit Jvm.RoadKit Bundle Jvm.Pilot.@@N@@.Jvm.D
section OwnKit
variable {p : Program} {l : Launch} {e : Env} {R : Room} {s : State} {m : MethodId} {args : Array Value} {below : List Frame} {meth : Method} {c : Code} {T : State} {locs : List Loc} {cells slots : Nat} {Z : State} {h h' : Heap} {a b : Addr}
def OwnWp (p : Program) (e : Env) (below : List Frame) (s : State) (C S : Nat) (Q : Option Value → Heap → List Loc → Prop) (U : State) : Prop :=
  ∃ s₂ o, Steps p.tables e below U s₂ ∧ s₂.status = .running ∧ Ended s₂ below o ∧ ∃ v L, o = .returned v ∧ Q v s₂.heap L ∧ FrameEnd s o s₂ L C S
variable {C S : Nat} {Q : Option Value → Heap → List Loc → Prop}
theorem OwnWp.step {U U' : State} (hs : ∀ t, Steps p.tables e below U' t → Steps p.tables e below U t) (k : OwnWp p e below s C S Q U') : OwnWp p e below s C S Q U := by
  obtain ⟨s2, o, h1, r⟩ := k
  exact ⟨s2, o, hs _ h1, r⟩
theorem OwnWp.go {U U' : State} (hs : Steps p.tables e below U U') (k : OwnWp p e below s C S Q U') : OwnWp p e below s C S Q U := k.step fun _ q => hs.trans q
theorem OwnWp.cast {g g' : JFrame} (q : g = g') (k : OwnWp p e below s C S Q (T.setTop g')) : OwnWp p e below s C S Q (T.setTop g) := q ▸ k
theorem OwnWp.retI (X : Stand p l e R s m args below meth c T locs cells slots) (hx : p.tables.exec = Jvm.exec) (hlk : meth.locks = false) (hret : meth.sig.returnType = some .int) {pc : Nat} {Ls : Array Slot} {z : Int32} {rest : List Value} (hd : decode c.code pc = .ok (.ireturn, 1)) (hC : cells ≤ C) (hS : slots ≤ S) (hQ : Q (some (.int z)) T.heap locs) :
    OwnWp p e below s C S Q (T.setTop (mkF m pc Ls (.int z :: rest))) := by
  obtain ⟨fs, hr, hrun, hended, hW, hsame⟩ := X.leave (v := some (.int z)) (fun h => by rw [hret] at h; cases h) hlk
  exact ⟨_, _, retOut X hx hret rfl (Or.inl ⟨rfl, Or.inl rfl, z, rfl⟩) hd hr, hrun, hended, _, _, rfl, hQ, ⟨_, rfl⟩, hW, hsame.mono hC hS⟩
theorem OwnWp.retJ (X : Stand p l e R s m args below meth c T locs cells slots) (hx : p.tables.exec = Jvm.exec) (hlk : meth.locks = false) (hret : meth.sig.returnType = some .long) {pc : Nat} {Ls : Array Slot} {z : Int64} {rest : List Value} (hd : decode c.code pc = .ok (.lreturn, 1)) (hC : cells ≤ C) (hS : slots ≤ S) (hQ : Q (some (.long z)) T.heap locs) :
    OwnWp p e below s C S Q (T.setTop (mkF m pc Ls (.long z :: rest))) := by
  obtain ⟨fs, hr, hrun, hended, hW, hsame⟩ := X.leave (v := some (.long z)) (fun h => by rw [hret] at h; cases h) hlk
  exact ⟨_, _, retOut X hx hret rfl (Or.inr (Or.inl ⟨rfl, rfl, z, rfl⟩)) hd hr, hrun, hended, _, _, rfl, hQ, ⟨_, rfl⟩, hW, hsame.mono hC hS⟩
theorem OwnWp.retA (X : Stand p l e R s m args below meth c T locs cells slots) (hx : p.tables.exec = Jvm.exec) (hlk : meth.locks = false) {t : FieldType} (hret : meth.sig.returnType = some t) (ht : t.isReference = true) {pc : Nat} {Ls : Array Slot} {z : Addr} {rest : List Value} (hn : narrow t (.ref z) = .ref z) (hd : decode c.code pc = .ok (.areturn, 1)) (hC : cells ≤ C) (hS : slots ≤ S) (hQ : Q (some (.ref z)) T.heap locs) :
    OwnWp p e below s C S Q (T.setTop (mkF m pc Ls (.ref z :: rest))) := by
  obtain ⟨fs, hr, hrun, hended, hW, hsame⟩ := X.leave (v := some (.ref z)) (fun h => by rw [hret] at h; cases h) hlk
  exact ⟨_, _, retOut X hx hret hn (Or.inr (Or.inr (Or.inr (Or.inr ⟨rfl, ht, rfl⟩)))) hd hr, hrun, hended, _, _, rfl, hQ, ⟨_, rfl⟩, hW, hsame.mono hC hS⟩
theorem OwnWp.retZ (X : Stand p l e R s m args below meth c T locs cells slots) (hx : p.tables.exec = Jvm.exec) (hlk : meth.locks = false) (hret : meth.sig.returnType = some .boolean) {pc : Nat} {Ls : Array Slot} {z : Int32} {rest : List Value} (hd : decode c.code pc = .ok (.ireturn, 1)) (hC : cells ≤ C) (hS : slots ≤ S) (hz : z = 0 ∨ z = 1) (hQ : Q (some (.int z)) T.heap locs) :
    OwnWp p e below s C S Q (T.setTop (mkF m pc Ls (.int z :: rest))) := by
  have hn : nar .boolean z = z := by rcases hz with rfl | rfl <;> rfl
  obtain ⟨fs, hr, hrun, hended, hW, hsame⟩ := X.leave (v := some (.int (nar .boolean z))) (fun h => by rw [hret] at h; cases h) hlk
  exact ⟨_, _, retN X hx hret (Or.inl rfl) hd hr, hrun, hended, _, _, rfl, by rw [hn]; exact hQ, ⟨_, rfl⟩, hW, hsame.mono hC hS⟩
theorem OwnWp.retV (X : Stand p l e R s m args below meth c T locs cells slots) (hx : p.tables.exec = Jvm.exec) (hlk : meth.locks = false) (hret : meth.sig.returnType = none) {pc : Nat} {Ls : Array Slot} (hd : decode c.code pc = .ok (.return_, 1)) (hC : cells ≤ C) (hS : slots ≤ S) (hQ : Q none T.heap locs) :
    OwnWp p e below s C S Q (T.setTop (mkF m pc Ls [])) := by
  obtain ⟨fs, hr, hrun, hended, hW, hsame⟩ := X.leave (v := none) (fun _ => rfl) hlk
  exact ⟨_, _, X.returnOut hx hret hd hr, hrun, hended, _, _, rfl, hQ, ⟨_, rfl⟩, hW, hsame.mono hC hS⟩
theorem own_widen {cells' slots' : Nat} (X : Stand p l e R s m args below meth c T locs cells slots) (h1 : cells ≤ cells') (h2 : slots ≤ slots') : Stand p l e R s m args below meth c T locs cells' slots' := { X with same := X.same.mono h1 h2 }
theorem own_lrem {g : JFrame} {target : State} (X : Stand p l e R s m args below meth c T locs cells slots) (hx : p.tables.exec = Jvm.exec) (hg : g.method = m) {x y : Int64} {rest : List Value} (hd : decode c.code g.pc = .ok (.lrem, 1)) (hs : g.stack = .long y :: .long x :: rest) (hy : y ≠ 0)
    (hr : Steps p.tables e below (T.setTop { g with pc := g.pc + 1, stack := .long (x % y) :: rest }) target) : Steps p.tables e below (T.setTop g) target :=
  XT.lrem X.here hx hg hd hs hy (by rw [lrem_mod]; exact hr)
/-- an array: its kind, its length, what place i holds -/
def OwnA (Z : State) (h : Heap) (a : Addr) (ty : FieldType) (n : Int32) (f : Int → Value) : Prop :=
  ∃ cl : Cell, Arr Z h a cl ty ∧ (cl.slots.size : Int) = n.toInt ∧ ∀ i : Int, 0 ≤ i → i < n.toInt → cl.slots[i.toNat]? = some (f i)
def ownUpd {α : Type} (f : Int → α) (j : Int) (x : α) : Int → α := fun i => if i = j then x else f i
theorem ownUpd_same {α : Type} (f : Int → α) (j : Int) (x : α) : ownUpd f j x j = x := if_pos rfl
theorem ownUpd_ne {α : Type} (f : Int → α) (j : Int) (x : α) {i : Int} (q : i ≠ j) : ownUpd f j x i = f i := if_neg q
variable {ty : FieldType} {n : Int32} {f : Int → Value} {ws : List Addr}
theorem OwnA.lt (F : OwnA Z h a ty n f) : a < h.size := by obtain ⟨_, A, -⟩ := F; exact A.lt
theorem OwnA.ext (F : OwnA Z h a ty n f) (E : Ext h h') : OwnA Z h' a ty n f := by obtain ⟨cl, A, r⟩ := F; exact ⟨cl, A.ext E, r⟩
theorem OwnA.keep (F : OwnA Z h a ty n f) (K : Keep h h' ws) (q : a ∉ ws) : OwnA Z h' a ty n f := by obtain ⟨cl, A, r⟩ := F; exact ⟨cl, ⟨K.2.1 a cl A.1 q, A.2⟩, r⟩
theorem OwnA.other {sl : Nat} {v : Value} (F : OwnA Z h b ty n f) (W : Wr h h' a sl v) (q : b ≠ a) : OwnA Z h' b ty n f := by obtain ⟨cl, A, r⟩ := F; exact ⟨cl, A.other W q, r⟩
theorem OwnA.len (F : OwnA Z h a ty n f) : 0 ≤ n.toInt := by obtain ⟨cl, _, r, _⟩ := F; omega
theorem OwnA.congr {f' : Int → Value} (F : OwnA Z h a ty n f) (q : ∀ i, 0 ≤ i → i < n.toInt → f i = f' i) : OwnA Z h a ty n f' := by obtain ⟨cl, A, r1, r2⟩ := F; exact ⟨cl, A, r1, fun i h1 h2 => by rw [← q i h1 h2]; exact r2 i h1 h2⟩
theorem own_clamp (j : Int32) : j.toNatClampNeg = j.toInt.toNat := rfl
theorem own_in {cl : Cell} {j : Int32} (r : (cl.slots.size : Int) = n.toInt) (h1 : 0 ≤ j.toInt) (h2 : j.toInt < n.toInt) : ¬ (j < 0 ∨ cl.slots.size ≤ j.toNatClampNeg) := by
  rw [own_clamp, Int32.lt_iff_toInt_lt, Int32.toInt_zero]; omega
theorem OwnA.new {k : ClassId} {z : Int32} (A : Arr Z h a (newA k ty z) ty) (q : 0 ≤ z.toInt) : OwnA Z h a ty z (fun _ => defaultValue ty) := by
  refine ⟨_, A, ?_, fun i h1 h2 => ?_⟩
  · rw [sz_new, own_clamp]; omega
  · have hi : i.toNat < z.toNatClampNeg := by rw [own_clamp]; omega
    show (Array.replicate z.toNatClampNeg (defaultValue ty))[i.toNat]? = _
    rw [Array.getElem?_replicate, if_pos hi]
theorem OwnA.set {j : Int32} {v : Value} (F : OwnA Z h a ty n f) (h1 : 0 ≤ j.toInt) (h2 : j.toInt < n.toInt) (W : Wr h h' a j.toNatClampNeg v) : OwnA Z h' a ty n (ownUpd f j.toInt v) := by
  obtain ⟨cl, A, r1, r2⟩ := F
  refine ⟨_, A.same W, by rw [sz_set]; exact r1, fun i g1 g2 => ?_⟩
  by_cases q : i = j.toInt
  · subst q
    rw [ownUpd_same]
    have hi : j.toNatClampNeg < cl.slots.size := by rw [own_clamp]; omega
    exact Array.getElem?_setIfInBounds_self_of_lt hi
  · rw [ownUpd_ne _ _ _ q, ← r2 i g1 g2, own_clamp]
    exact Array.getElem?_setIfInBounds_ne (by omega)
variable {g : JFrame} {target : State} {rest : List Value} {j : Int32}
theorem OwnA.alen (X : Stand p l e R s m args below meth c T locs cells slots) (hx : p.tables.exec = Jvm.exec) (hZ : Z.Warmed39 s.vm) (eT : T.heap = h) (F : OwnA Z h a ty n f) (hg : g.method = m) (hs : g.stack = .ref a :: rest) (hd : decode c.code g.pc = .ok (.arraylength, 1))
    (hr : Steps p.tables e below (T.setTop { g with pc := g.pc + 1, stack := .int n :: rest }) target) : Steps p.tables e below (T.setTop g) target := by
  obtain ⟨cl, A, r1, r2⟩ := F
  subst eT
  refine X.arraylength hx A.1 (State.isArrayOf_alike hZ.alike A.2.1) hg hs hd target ?_
  have q : cl.slots.size.toInt32 = n := by
    have q0 : cl.slots.size = n.toNatClampNeg := by rw [own_clamp]; omega
    exact len_of q0 (by rw [Int32.lt_iff_toInt_lt, Int32.toInt_zero]; omega)
  rw [q]; exact hr
theorem OwnA.ldI (X : Stand p l e R s m args below meth c T locs cells slots) (hx : p.tables.exec = Jvm.exec) (hZ : Z.Warmed39 s.vm) (eT : T.heap = h) (F : OwnA Z h a .int n f) (h1 : 0 ≤ j.toInt) (h2 : j.toInt < n.toInt) (hg : g.method = m) (hs : g.stack = .int j :: .ref a :: rest) (hd : decode c.code g.pc = .ok (.iaload, 1))
    (hr : Steps p.tables e below (T.setTop { g with pc := g.pc + 1, stack := f j.toInt :: rest }) target) : Steps p.tables e below (T.setTop g) target := by
  obtain ⟨cl, A, r1, r2⟩ := F
  subst eT
  exact X.iaload hx A.1 (State.isArrayOf_alike hZ.alike A.2.1) A.2.2 (own_in r1 h1 h2) (r2 _ h1 h2) hg hs hd target hr
theorem OwnA.ldJ (X : Stand p l e R s m args below meth c T locs cells slots) (hx : p.tables.exec = Jvm.exec) (hZ : Z.Warmed39 s.vm) (eT : T.heap = h) (F : OwnA Z h a .long n f) (h1 : 0 ≤ j.toInt) (h2 : j.toInt < n.toInt) (hg : g.method = m) (hs : g.stack = .int j :: .ref a :: rest) (hd : decode c.code g.pc = .ok (.laload, 1))
    (hr : Steps p.tables e below (T.setTop { g with pc := g.pc + 1, stack := f j.toInt :: rest }) target) : Steps p.tables e below (T.setTop g) target := by
  obtain ⟨cl, A, r1, r2⟩ := F
  subst eT
  exact X.laload hx A.1 (State.isArrayOf_alike hZ.alike A.2.1) A.2.2 (own_in r1 h1 h2) (r2 _ h1 h2) hg hs hd target hr
theorem OwnA.ldC (X : Stand p l e R s m args below meth c T locs cells slots) (hx : p.tables.exec = Jvm.exec) (hZ : Z.Warmed39 s.vm) (eT : T.heap = h) (F : OwnA Z h a .char n f) (h1 : 0 ≤ j.toInt) (h2 : j.toInt < n.toInt) (hg : g.method = m) (hs : g.stack = .int j :: .ref a :: rest) (hd : decode c.code g.pc = .ok (.caload, 1))
    (hr : Steps p.tables e below (T.setTop { g with pc := g.pc + 1, stack := f j.toInt :: rest }) target) : Steps p.tables e below (T.setTop g) target := by
  obtain ⟨cl, A, r1, r2⟩ := F
  subst eT
  exact X.caload hx A.1 (State.isArrayOf_alike hZ.alike A.2.1) A.2.2 (own_in r1 h1 h2) (r2 _ h1 h2) hg hs hd target hr
theorem OwnA.ldB (X : Stand p l e R s m args below meth c T locs cells slots) (hx : p.tables.exec = Jvm.exec) (hZ : Z.Warmed39 s.vm) (eT : T.heap = h) (F : OwnA Z h a .byte n f) (h1 : 0 ≤ j.toInt) (h2 : j.toInt < n.toInt) (hg : g.method = m) (hs : g.stack = .int j :: .ref a :: rest) (hd : decode c.code g.pc = .ok (.baload, 1))
    (hr : Steps p.tables e below (T.setTop { g with pc := g.pc + 1, stack := f j.toInt :: rest }) target) : Steps p.tables e below (T.setTop g) target := by
  obtain ⟨cl, A, r1, r2⟩ := F
  subst eT
  exact X.baloadBytes hx A.1 (State.isArrayOf_alike hZ.alike A.2.1) A.2.2 (own_in r1 h1 h2) (r2 _ h1 h2) hg hs hd target hr
theorem OwnA.ldZ (X : Stand p l e R s m args below meth c T locs cells slots) (hx : p.tables.exec = Jvm.exec) (hZ : Z.Warmed39 s.vm) (eT : T.heap = h) (F : OwnA Z h a .boolean n f) (h1 : 0 ≤ j.toInt) (h2 : j.toInt < n.toInt) (hg : g.method = m) (hs : g.stack = .int j :: .ref a :: rest) (hd : decode c.code g.pc = .ok (.baload, 1))
    (hr : Steps p.tables e below (T.setTop { g with pc := g.pc + 1, stack := f j.toInt :: rest }) target) : Steps p.tables e below (T.setTop g) target := by
  obtain ⟨cl, A, r1, r2⟩ := F
  subst eT
  exact X.baloadBooleans hx A.1 (State.isArrayOf_alike hZ.alike A.2.1) A.2.2 (own_in r1 h1 h2) (r2 _ h1 h2) hg hs hd target hr
theorem own_frs {k : Nat} {sl : Nat} (N : Fr k locs) (q : k ≤ a) : Fr k (locs ++ [⟨a, sl⟩]) := N.app fun y hy => by cases List.mem_singleton.mp hy; exact q
theorem OwnA.stI {n0 : Nat} {x : Int32} (X : Stand p l e R s m args below meth c T locs cells slots) (hx : p.tables.exec = Jvm.exec) (hZ : Z.Warmed39 s.vm) (eT : T.heap = h) (N : Fr n0 locs) (q : n0 ≤ a) (F : OwnA Z h a .int n f) (h1 : 0 ≤ j.toInt) (h2 : j.toInt < n.toInt) (hg : g.method = m) (hs : g.stack = .int x :: .int j :: .ref a :: rest) (hd : decode c.code g.pc = .ok (.iastore, 1)) :
    ∃ T' h' L', Stand p l e R s m args below meth c T' L' cells slots ∧ T'.heap = h' ∧ Fr n0 L' ∧ Keep h h' [a] ∧ OwnA Z h' a .int n (ownUpd f j.toInt (.int x)) ∧ ∀ target, Steps p.tables e below (T'.setTop { g with pc := g.pc + 1, stack := rest }) target → Steps p.tables e below (T.setTop g) target := by
  obtain ⟨cl, A, r1, r2⟩ := id F
  obtain ⟨T', h', X', e', W, st⟩ := RoadKit.stI X hx hZ eT A (own_in r1 h1 h2) hg hs hd
  exact ⟨T', h', _, X', e', own_frs N q, Keep.of_wr W, F.set h1 h2 W, st⟩
theorem OwnA.stJ {n0 : Nat} {x : Int64} (X : Stand p l e R s m args below meth c T locs cells slots) (hx : p.tables.exec = Jvm.exec) (hZ : Z.Warmed39 s.vm) (eT : T.heap = h) (N : Fr n0 locs) (q : n0 ≤ a) (F : OwnA Z h a .long n f) (h1 : 0 ≤ j.toInt) (h2 : j.toInt < n.toInt) (hg : g.method = m) (hs : g.stack = .long x :: .int j :: .ref a :: rest) (hd : decode c.code g.pc = .ok (.lastore, 1)) :
    ∃ T' h' L', Stand p l e R s m args below meth c T' L' cells slots ∧ T'.heap = h' ∧ Fr n0 L' ∧ Keep h h' [a] ∧ OwnA Z h' a .long n (ownUpd f j.toInt (.long x)) ∧ ∀ target, Steps p.tables e below (T'.setTop { g with pc := g.pc + 1, stack := rest }) target → Steps p.tables e below (T.setTop g) target := by
  obtain ⟨cl, A, r1, r2⟩ := id F
  obtain ⟨T', h', X', e', W, st⟩ := RoadKit.stJ X hx hZ eT A (own_in r1 h1 h2) hg hs hd
  exact ⟨T', h', _, X', e', own_frs N q, Keep.of_wr W, F.set h1 h2 W, st⟩
theorem OwnA.stC {n0 : Nat} {x : Int32} (X : Stand p l e R s m args below meth c T locs cells slots) (hx : p.tables.exec = Jvm.exec) (hZ : Z.Warmed39 s.vm) (eT : T.heap = h) (N : Fr n0 locs) (q : n0 ≤ a) (F : OwnA Z h a .char n f) (h1 : 0 ≤ j.toInt) (h2 : j.toInt < n.toInt) (hg : g.method = m) (hs : g.stack = .int x :: .int j :: .ref a :: rest) (hd : decode c.code g.pc = .ok (.castore, 1)) :
    ∃ T' h' L', Stand p l e R s m args below meth c T' L' cells slots ∧ T'.heap = h' ∧ Fr n0 L' ∧ Keep h h' [a] ∧ OwnA Z h' a .char n (ownUpd f j.toInt (.int (nar .char x))) ∧ ∀ target, Steps p.tables e below (T'.setTop { g with pc := g.pc + 1, stack := rest }) target → Steps p.tables e below (T.setTop g) target := by
  obtain ⟨cl, A, r1, r2⟩ := id F
  obtain ⟨T', h', X', e', W, st⟩ := RoadKit.stC X hx hZ eT A (own_in r1 h1 h2) hg hs hd
  exact ⟨T', h', _, X', e', own_frs N q, Keep.of_wr W, F.set h1 h2 W, st⟩
theorem OwnA.stB {n0 : Nat} {x : Int32} (X : Stand p l e R s m args below meth c T locs cells slots) (hx : p.tables.exec = Jvm.exec) (hZ : Z.Warmed39 s.vm) (eT : T.heap = h) (N : Fr n0 locs) (q : n0 ≤ a) (F : OwnA Z h a .byte n f) (h1 : 0 ≤ j.toInt) (h2 : j.toInt < n.toInt) (hg : g.method = m) (hs : g.stack = .int x :: .int j :: .ref a :: rest) (hd : decode c.code g.pc = .ok (.bastore, 1)) :
    ∃ T' h' L', Stand p l e R s m args below meth c T' L' cells slots ∧ T'.heap = h' ∧ Fr n0 L' ∧ Keep h h' [a] ∧ OwnA Z h' a .byte n (ownUpd f j.toInt (.int (nar .byte x))) ∧ ∀ target, Steps p.tables e below (T'.setTop { g with pc := g.pc + 1, stack := rest }) target → Steps p.tables e below (T.setTop g) target := by
  obtain ⟨cl, A, r1, r2⟩ := id F
  obtain ⟨T', h', X', e', W, st⟩ := RoadKit.stB X hx hZ eT A (own_in r1 h1 h2) hg hs hd
  exact ⟨T', h', _, X', e', own_frs N q, Keep.of_wr W, F.set h1 h2 W, st⟩
theorem OwnA.stZ {n0 : Nat} {x : Int32} (X : Stand p l e R s m args below meth c T locs cells slots) (hx : p.tables.exec = Jvm.exec) (hZ : Z.Warmed39 s.vm) (eT : T.heap = h) (N : Fr n0 locs) (q : n0 ≤ a) (F : OwnA Z h a .boolean n f) (h1 : 0 ≤ j.toInt) (h2 : j.toInt < n.toInt) (hg : g.method = m) (hs : g.stack = .int x :: .int j :: .ref a :: rest) (hd : decode c.code g.pc = .ok (.bastore, 1)) :
    ∃ T' h' L', Stand p l e R s m args below meth c T' L' cells slots ∧ T'.heap = h' ∧ Fr n0 L' ∧ Keep h h' [a] ∧ OwnA Z h' a .boolean n (ownUpd f j.toInt (.int (nar .boolean x))) ∧ ∀ target, Steps p.tables e below (T'.setTop { g with pc := g.pc + 1, stack := rest }) target → Steps p.tables e below (T.setTop g) target := by
  obtain ⟨cl, A, r1, r2⟩ := id F
  obtain ⟨T', h', X', e', W, st⟩ := RoadKit.stZ X hx hZ eT A (own_in r1 h1 h2) hg hs hd
  exact ⟨T', h', _, X', e', own_frs N q, Keep.of_wr W, F.set h1 h2 W, st⟩
end OwnKit
theorem own_ofi {n : Int} (h1 : -2147483648 ≤ n) (h2 : n < 2147483648) : (Int32.ofInt n).toInt = n := by
  rw [Int32.toInt_ofInt, show Int32.size = 4294967296 from rfl, Int.bmod_eq_of_le (by omega) (by omega)]
theorem own_ofj {n : Int} (h1 : -9223372036854775808 ≤ n) (h2 : n < 9223372036854775808) : (Int64.ofInt n).toInt = n := by
  rw [Int64.toInt_ofInt, show Int64.size = 18446744073709551616 from rfl, Int.bmod_eq_of_le (by omega) (by omega)]
/-- an int between 0 and n is one of finitely many -/
theorem own_fin {x : Int32} {n : Nat} (h1 : 0 ≤ x.toInt) (h2 : x.toInt < n) : ∃ k : Fin n, x = Int32.ofInt (k.1 : Int) := by
  have h3 := x.toInt_lt
  refine ⟨⟨x.toInt.toNat, by omega⟩, Int32.toInt_inj.mp ?_⟩
  show _ = (Int32.ofInt ((x.toInt.toNat : Nat) : Int)).toInt
  rw [own_ofi (by omega) (by omega)]; omega
theorem d1_0 : decode prog_28_method_6_code 0 = .ok (.lload_n 0, 1) := by decide +kernel
theorem d1_1 : decode prog_28_method_6_code 1 = .ok (.bipush 32, 2) := by decide +kernel
theorem d1_3 : decode prog_28_method_6_code 3 = .ok (.lushr, 1) := by decide +kernel
theorem d1_4 : decode prog_28_method_6_code 4 = .ok (.l2i, 1) := by decide +kernel
theorem d1_5 : decode prog_28_method_6_code 5 = .ok (.ldc 15, 2) := by decide +kernel
theorem d1_7 : decode prog_28_method_6_code 7 = .ok (.iand, 1) := by decide +kernel
theorem d1_8 : decode prog_28_method_6_code 8 = .ok (.ifCond .ne 7, 3) := by decide +kernel
theorem d1_11 : decode prog_28_method_6_code 11 = .ok (.iconst 1, 1) := by decide +kernel
theorem d1_12 : decode prog_28_method_6_code 12 = .ok (.goto 4, 3) := by decide +kernel
theorem d1_15 : decode prog_28_method_6_code 15 = .ok (.iconst 0, 1) := by decide +kernel
theorem d1_16 : decode prog_28_method_6_code 16 = .ok (.ireturn, 1) := by decide +kernel
theorem pn_1 : plainName "leafrun/log/FrameHead" = true := by first | (simp [plainName, overriddenIn]; done) | decide +kernel
theorem pd_1 : parseMethodDescriptor "(J)Z" = some ⟨[.long], some .boolean⟩ := by decide +kernel
theorem ef_1 (m : MethodId) (x0 : Int64) : entryFrame m #[(.long x0)] 2 = mkF m 0 #[.val (.long x0), .second] [] := by first | (simp [entryFrame, mkF, argsToLocals, Value.category, maxLocals]; done) | rfl
def own_f1_w1 (p1 : Int64) : Int32 := (if ((XT.ushrL p1 (32 : Int32)).toInt32 &&& ((-2147483648) : Int32)) = (0 : Int32) then (1 : Int32) else (0 : Int32))
def own_f1 (p1 : Int64) : Int32 := (own_f1_w1 p1)
def Q1 (Z : State) (p1 : Int64)  (h0 : Heap) (n0 : Nat) (v : Option Value) (h : Heap) (L : List Loc) : Prop := v = some (.int (own_f1 p1)) ∧ Fr n0 L ∧ h = h0
set_option maxRecDepth 65536 in
set_option maxHeartbeats 40000000 in
theorem rm1 (l : Launch) (Z : State) (a0 : Array Value) (hw : ∀ d ∈ tables_1, d.before a0 Z = true) (ws : List Jvm.Cond) (p1 : Int64)  (h0 : Heap) (n0 : Nat) (Z0 : n0 ≤ h0.size)  :
    MetFree l (⟨"leafrun/log/FrameHead", "isForced", "(J)Z"⟩ : MethodName) (head1 (Jvm.Cond.code (⟨"leafrun/log/FrameHead", "isForced", "(J)Z"⟩ : MethodName) prog_28_method_6_code 2 (some .boolean) :: ws) ({ frames := 0, cells := 0, slots := 0, locals := 0 } : Room)) (fun a U => a = #[(.long p1)] ∧ Z.Warmed39 U.vm ∧ U.heap = h0) (fun _ _ _ _ _ => True) (fun _ U o U' => ∃ v L, o = .returned v ∧ Q1 Z p1  h0 n0 v U'.heap L ∧ FrameEnd U o U' L ({ frames := 0, cells := 0, slots := 0, locals := 0 } : Room).cells ({ frames := 0, cells := 0, slots := 0, locals := 0 } : Room).slots) := by
  refine MetFree.of_bodySF (plainFor_of_name pn_1) hisR ?_
  intro p e s m args below meth c s₁ Bd hml0 hP hK
  obtain ⟨rfl, hZ, hh⟩ := hP
  have hx := Bd.exec
  have hby := Bd.bytes
  have hlk := BodyLoose.notSynchronized Bd
  have hml : c.maxLocals = 2 := hml0
  have hown : s.vm.findClass "leafrun/log/FrameHead" = some m.cls := findClass_of_methodNamed Bd.named
  have hnm := (name_of_methodNamed Bd.named Bd.method).1
  have X0 : Stand p l e ({ frames := 0, cells := 0, slots := 0, locals := 0 } : Room) s m #[(.long p1)] below meth c s₁ [] 0 0 := Stand.of_body Bd
  have e0 : s₁.heap = h0 := by rw [← hh, Bd.state]; rfl
  have N0 := Fr.nil n0
  show OwnWp p e below s ({ frames := 0, cells := 0, slots := 0, locals := 0 } : Room).cells ({ frames := 0, cells := 0, slots := 0, locals := 0 } : Room).slots (Q1 Z p1  h0 n0) (s₁.setTop (entryFrame m #[(.long p1)] 2))
  refine OwnWp.cast (ef_1 m p1) ?_
  show OwnWp p e below s _ _ _ (s₁.setTop (mkF m 0 #[.val (.long p1), .second] []))
  refine OwnWp.step (U' := s₁.setTop (mkF m 8 #[.val (.long p1), .second] [(.int ((XT.ushrL p1 (32 : Int32)).toInt32 &&& ((-2147483648) : Int32)))])) (fun t k => ?_) ?_
  · show Steps p.tables e below (s₁.setTop (mkF m 0 #[.val (.long p1), .second] [])) _
    refine XT.lloadN X0.here hx rfl (hb hby d1_0) rfl ?_
    show Steps p.tables e below (s₁.setTop (mkF m 1 #[.val (.long p1), .second] [(.long p1)])) _
    refine XT.bipushV X0.here hx rfl (32 : Int32) (hb hby d1_1) rfl ?_
    show Steps p.tables e below (s₁.setTop (mkF m 3 #[.val (.long p1), .second] [(.int (32 : Int32)), (.long p1)])) _
    refine XT.lushr X0.here hx rfl (hb hby d1_3) rfl ?_
    show Steps p.tables e below (s₁.setTop (mkF m 4 #[.val (.long p1), .second] [(.long (XT.ushrL p1 (32 : Int32)))])) _
    refine XT.l2i X0.here hx rfl (hb hby d1_4) rfl ?_
    show Steps p.tables e below (s₁.setTop (mkF m 5 #[.val (.long p1), .second] [(.int (XT.ushrL p1 (32 : Int32)).toInt32)])) _
    refine X0.ldcI hx hown (mvT hZ (hw _ (List.mem_of_getElem? (i := 4) rfl))) rfl (hb hby d1_5) ?_
    show Steps p.tables e below (s₁.setTop (mkF m 7 #[.val (.long p1), .second] [(.int ((-2147483648) : Int32)), (.int (XT.ushrL p1 (32 : Int32)).toInt32)])) _
    refine XS.iand X0.here hx rfl (hb hby d1_7) rfl ?_
    show Steps p.tables e below (s₁.setTop (mkF m 8 #[.val (.long p1), .second] [(.int ((XT.ushrL p1 (32 : Int32)).toInt32 &&& ((-2147483648) : Int32)))])) _
    exact k
  obtain ⟨w1, qw1⟩ : ∃ z : Int32, z = (if ((XT.ushrL p1 (32 : Int32)).toInt32 &&& ((-2147483648) : Int32)) = (0 : Int32) then (1 : Int32) else (0 : Int32)) := ⟨_, rfl⟩
  refine OwnWp.step (U' := s₁.setTop (mkF m 16 #[.val (.long p1), .second] [(.int w1)])) (fun t k => ?_) ?_
  · show Steps p.tables e below (s₁.setTop (mkF m 8 #[.val (.long p1), .second] [(.int ((XT.ushrL p1 (32 : Int32)).toInt32 &&& ((-2147483648) : Int32)))])) _
    by_cases c8_1 : ((XT.ushrL p1 (32 : Int32)).toInt32 &&& ((-2147483648) : Int32)) = (0 : Int32)
    · refine XS.ifNo X0.here hx rfl (hb hby d1_8) rfl (XT.i0_ne_f c8_1) ?_
      show Steps p.tables e below (s₁.setTop (mkF m 11 #[.val (.long p1), .second] [])) _
      refine XT.iconstV X0.here hx rfl (1 : Int32) (hb hby d1_11) rfl ?_
      show Steps p.tables e below (s₁.setTop (mkF m 12 #[.val (.long p1), .second] [(.int (1 : Int32))])) _
      refine XS.goto X0.here hx rfl (pc0 := 12) (pc' := 16) rfl (hb hby d1_12) (by decide) (by decide) ?_
      show Steps p.tables e below (s₁.setTop (mkF m 16 #[.val (.long p1), .second] [(.int (1 : Int32))])) _
      rw [show w1 = (1 : Int32) from by rw [qw1, if_pos c8_1]] at k
      exact k
    · refine XS.ifYes X0.here hx rfl (pc0 := 8) (pc' := 15) rfl (hb hby d1_8) rfl (XT.i0_ne_t c8_1) (by decide) (by decide) ?_
      show Steps p.tables e below (s₁.setTop (mkF m 15 #[.val (.long p1), .second] [])) _
      refine XT.iconstV X0.here hx rfl (0 : Int32) (hb hby d1_15) rfl ?_
      show Steps p.tables e below (s₁.setTop (mkF m 16 #[.val (.long p1), .second] [(.int (0 : Int32))])) _
      rw [show w1 = (0 : Int32) from by rw [qw1, if_neg c8_1]] at k
      exact k
  refine OwnWp.retZ X0 hx hlk Bd.returns (hb hby d1_16) (by decide) (by decide) (by rw [qw1]; repeat (first | exact Or.inl rfl | exact Or.inr rfl | split)) ?_
  refine ⟨?_, N0, e0⟩
  show some (Value.int w1) = some (.int (own_f1 p1))
  subst qw1
  unfold own_f1 own_f1_w1
  rfl
theorem own_sign (y : Int32) : (y &&& ((-2147483648) : Int32)) = 0 ↔ 0 ≤ y.toInt := by
  have e : ((-2147483648) : Int32).toBitVec = BitVec.twoPow 32 31 := by decide
  have h1 : (y &&& ((-2147483648) : Int32)).toBitVec = if y.toBitVec.getLsbD 31 then BitVec.twoPow 32 31 else 0#32 := by
    rw [Int32.toBitVec_and, e, BitVec.and_twoPow]
  have h2 : y.toBitVec.getLsbD 31 = decide (y.toInt < 0) := by
    have := BitVec.msb_eq_toInt (x := y.toBitVec)
    rw [BitVec.msb_eq_getLsbD_last] at this
    exact this
  rw [← Int32.toBitVec_inj, h1, h2]
  by_cases q : y.toInt < 0
  · simp only [q, decide_true, if_true]
    constructor
    · intro h; exact absurd h (by decide)
    · intro h; omega
  · simp only [q, decide_false]
    constructor
    · intro h; omega
    · intro h; rfl
theorem own_forced (x : Int64) : own_f1 x = if x.toInt < 0 then 0 else 1 := by
  have e1 := c_lushr x 32 32 (by decide) (by decide)
  have e2 := c_l2i (XT.ushrL x 32)
  have e3 : (XT.ushrL x 32).toInt = (x.toInt % 18446744073709551616) / (2 ^ 32 : Nat) := e1
  have e4 := rng32 (XT.ushrL x 32).toInt32
  have e5 := rng64 x
  have e6 := own_sign (XT.ushrL x 32).toInt32
  unfold own_f1 own_f1_w1
  by_cases q : x.toInt < 0
  · rw [if_neg (fun h => by have := e6.mp h; omega), if_pos q]
  · rw [if_pos (e6.mpr (by omega)), if_neg q]

theorem pn_0 : plainName "leafrun/log/FrameHeadIsForcedPinLaw" = true := by first | (simp [plainName, overriddenIn]; done) | decide +kernel
theorem pd_0 : parseMethodDescriptor "(JIII)Z" = some ⟨[.long, .int, .int, .int], some .boolean⟩ := by decide +kernel
theorem ef_0 (m : MethodId) (x0 : Int64) (x1 : Int32) (x2 : Int32) (x3 : Int32) : entryFrame m #[(.long x0), (.int x1), (.int x2), (.int x3)] maxLocals = mkF m 0 #[.val (.long x0), .second, .val (.int x1), .val (.int x2), .val (.int x3), .unset, .unset, .unset, .unset, .unset, .unset] [] := by first | (simp [entryFrame, mkF, argsToLocals, Value.category, maxLocals]; done) | rfl
theorem own_law (p1 : Int64) (p2 : Int32) (p3 : Int32) (p4 : Int32) (w1 : Int32) (qw1 : w1 = (if p1 < (0 : Int64) then (0 : Int32) else (1 : Int32))) (w2 : Int32) (qw2 : w2 = (if (own_f1 p1) = w1 then (1 : Int32) else (0 : Int32))) (w3 : Int32) (qw3 : w3 = (if (p4 &&& (1 : Int32)) = (0 : Int32) then (0 : Int32) else (1 : Int32))) (w4 : Int32) (qw4 : w4 = (if w3 = (0 : Int32) then (p2 ||| ((-2147483648) : Int32)) else (p2 &&& (2147483647 : Int32)))) (w5 : Int64) (qw5 : w5 = ((w4.toInt64 <<< ((32 : Int32).toInt64 &&& 63)) ||| (p3.toInt64 &&& (4294967295 : Int64)))) (w6 : Int32) (qw6 : w6 = (if (own_f1 w5) = w3 then (1 : Int32) else (0 : Int32))) (w7 : Int32) (qw7 : w7 = (if w2 = (0 : Int32) then (0 : Int32) else (if w6 = (0 : Int32) then (0 : Int32) else (1 : Int32)))) : w7 = 1 := by
  have f1 := own_forced p1
  have f2 := own_forced w5
  have h2 : own_f1 p1 = w1 := by
    rw [f1, qw1]
    by_cases q : p1.toInt < 0
    · rw [if_pos q, if_pos (Int64.lt_iff_toInt_lt.mpr q)]
    · rw [if_neg q, if_neg (fun h => q (Int64.lt_iff_toInt_lt.mp h))]
  rw [if_pos h2] at qw2
  have a1 := c_lshl w4.toInt64 32 32 (by decide)
  rw [show ((32 : Int32) &&& 0x3f).toInt64 = (32 : Int32).toInt64 &&& 63 from by decide, c_i2l] at a1
  have a2 := rng32 w4
  have a3 := rng64 (w4.toInt64 <<< ((32 : Int32).toInt64 &&& 63))
  have a4 := c_maskL p3.toInt64 4294967295 32 (by decide) (by decide)
  have a5 := c_orSL (w4.toInt64 <<< ((32 : Int32).toInt64 &&& 63)) (p3.toInt64 &&& (4294967295 : Int64))
  rw [← qw5] at a5
  have h4 : w5.toInt < 0 ↔ w4.toInt < 0 := by
    constructor
    · intro h
      apply Classical.byContradiction
      intro h'
      have := a5.1 (by omega) (by omega)
      omega
    · intro h
      exact a5.2.1 (by omega)
  have h6 : own_f1 w5 = w3 := by
    rw [f2]
    by_cases q : w3 = 0
    · rw [if_pos q] at qw4
      have := (c_orS p2 ((-2147483648) : Int32)).2.2 (by decide)
      rw [← qw4] at this
      rw [if_pos (h4.mpr this), q]
    · rw [if_neg q] at qw4
      have := (c_andS p2 (2147483647 : Int32)).2.2 (by decide)
      rw [← qw4] at this
      rw [if_neg (fun h => by have := h4.mp h; omega), qw3]
      by_cases q3 : (p4 &&& (1 : Int32)) = 0
      · rw [if_pos q3] at qw3; exact absurd qw3 q
      · rw [if_neg q3]
  rw [if_pos h6] at qw6
  rw [qw7, qw2, qw6]; rfl

def Q0 (Z : State) (p1 : Int64) (p2 : Int32) (p3 : Int32) (p4 : Int32)  (h0 : Heap) (n0 : Nat) (v : Option Value) (h : Heap) (L : List Loc) : Prop := v = some (.int 1) ∧ Fr n0 L
set_option maxRecDepth 65536 in
set_option maxHeartbeats 40000000 in
theorem rm0 (l : Launch) (Z : State) (a0 : Array Value) (hw : ∀ d ∈ tables_1, d.before a0 Z = true) (ws : List Jvm.Cond) (p1 : Int64) (p2 : Int32) (p3 : Int32) (p4 : Int32)  (h0 : Heap) (n0 : Nat) (Z0 : n0 ≤ h0.size)  :
    MetFree l x (head1 (Jvm.Cond.code x code maxLocals ret :: ws) room_1) (fun a U => a = #[(.long p1), (.int p2), (.int p3), (.int p4)] ∧ Z.Warmed39 U.vm ∧ U.heap = h0) (fun _ _ _ _ _ => True) (fun _ U o U' => ∃ v L, o = .returned v ∧ Q0 Z p1 p2 p3 p4  h0 n0 v U'.heap L ∧ FrameEnd U o U' L room_1.cells room_1.slots) := by
  refine MetFree.of_bodySF (plainFor_of_name pn_0) hisR ?_
  intro p e s m args below meth c s₁ Bd hml0 hP hK
  obtain ⟨rfl, hZ, hh⟩ := hP
  have hx := Bd.exec
  have hby := Bd.bytes
  have hlk := BodyLoose.notSynchronized Bd
  have hml : c.maxLocals = 11 := hml0
  have hown : s.vm.findClass "leafrun/log/FrameHeadIsForcedPinLaw" = some m.cls := findClass_of_methodNamed Bd.named
  have hnm := (name_of_methodNamed Bd.named Bd.method).1
  have X0 : Stand p l e room_1 s m #[(.long p1), (.int p2), (.int p3), (.int p4)] below meth c s₁ [] 0 0 := Stand.of_body Bd
  have e0 : s₁.heap = h0 := by rw [← hh, Bd.state]; rfl
  have N0 := Fr.nil n0
  show OwnWp p e below s room_1.cells room_1.slots (Q0 Z p1 p2 p3 p4  h0 n0) (s₁.setTop (entryFrame m #[(.long p1), (.int p2), (.int p3), (.int p4)] maxLocals))
  refine OwnWp.cast (ef_0 m p1 p2 p3 p4) ?_
  show OwnWp p e below s _ _ _ (s₁.setTop (mkF m 0 #[.val (.long p1), .second, .val (.int p2), .val (.int p3), .val (.int p4), .unset, .unset, .unset, .unset, .unset, .unset] []))
  refine OwnWp.step (U' := s₁.setTop (mkF m 1 #[.val (.long p1), .second, .val (.int p2), .val (.int p3), .val (.int p4), .unset, .unset, .unset, .unset, .unset, .unset] [(.long p1)])) (fun t k => ?_) ?_
  · show Steps p.tables e below (s₁.setTop (mkF m 0 #[.val (.long p1), .second, .val (.int p2), .val (.int p3), .val (.int p4), .unset, .unset, .unset, .unset, .unset, .unset] [])) _
    refine XT.lloadN X0.here hx rfl (hb hby at_0) rfl ?_
    show Steps p.tables e below (s₁.setTop (mkF m 1 #[.val (.long p1), .second, .val (.int p2), .val (.int p3), .val (.int p4), .unset, .unset, .unset, .unset, .unset, .unset] [(.long p1)])) _
    exact k
  show OwnWp p e below s _ _ _ (s₁.setTop (mkF m 1 #[.val (.long p1), .second, .val (.int p2), .val (.int p3), .val (.int p4), .unset, .unset, .unset, .unset, .unset, .unset] [(.long p1)]))
  obtain ⟨_, _, ⟨T2, L2, k2, n2⟩, -, X2, ⟨Lc2, hQ2, l2, y2, z2⟩, st2⟩ := Jvm.LawKit.callS X0 hx (y := (⟨"leafrun/log/FrameHead", "isForced", "(J)Z"⟩ : MethodName)) hown (mvT hZ (hw _ (List.mem_of_getElem? (i := 0) rfl))) (mvT hZ (hw _ (List.mem_of_getElem? (i := 1) rfl))) (mvT hZ (hw _ (List.mem_of_getElem? (i := 2) rfl))) (mvT hZ (hw _ (List.mem_of_getElem? (i := 3) rfl))) (by decide) (backOf (W := 0) (rm1 l Z a0 hw [] p1 h0 n0 Z0 ) hZ (hw _ (List.mem_of_getElem? (i := 3) rfl)) (hw _ (List.mem_of_getElem? (i := 2) rfl)) (by decide) (by decide)) (g := (mkF m 1 #[.val (.long p1), .second, .val (.int p2), .val (.int p3), .val (.int p4), .unset, .unset, .unset, .unset, .unset, .unset] [(.long p1)])) rfl (by rw [hml]; rfl) (argsL := [(.long p1)]) (rest := []) (lenOf pd_1 rfl) rfl (by show 2 * 0 + _ ≤ _; exact Nat.le_of_eq rfl) (hb hby at_1) (fun _ _ => ⟨rfl, e0, (by dsimp only [Pt.cells]; decide), (by dsimp only [Pt.slots]; decide)⟩)
  dsimp only [Pt.U, Pt.locs, Pt.cells, Pt.slots] at X2 l2 y2 z2 st2 hQ2
  subst l2 y2 z2
  obtain ⟨rfl, Nc2, hp2⟩ := hQ2
  have N2 := Fr.app N0 Nc2
  refine OwnWp.step st2 ?_
  have eh2 : T2.heap = h0 := hp2
  show OwnWp p e below s _ _ _ (T2.setTop (mkF m 4 #[.val (.long p1), .second, .val (.int p2), .val (.int p3), .val (.int p4), .unset, .unset, .unset, .unset, .unset, .unset] [(.int (own_f1 p1))]))
  refine OwnWp.step (U' := T2.setTop (mkF m 7 #[.val (.long p1), .second, .val (.int p2), .val (.int p3), .val (.int p4), .unset, .unset, .unset, .unset, .unset, .unset] [(.int (XT.cmpL p1 (0 : Int64))), (.int (own_f1 p1))])) (fun t k => ?_) ?_
  · show Steps p.tables e below (T2.setTop (mkF m 4 #[.val (.long p1), .second, .val (.int p2), .val (.int p3), .val (.int p4), .unset, .unset, .unset, .unset, .unset, .unset] [(.int (own_f1 p1))])) _
    refine XT.lloadN X2.here hx rfl (hb hby at_4) rfl ?_
    show Steps p.tables e below (T2.setTop (mkF m 5 #[.val (.long p1), .second, .val (.int p2), .val (.int p3), .val (.int p4), .unset, .unset, .unset, .unset, .unset, .unset] [(.long p1), (.int (own_f1 p1))])) _
    refine XT.lconstV X2.here hx rfl (0 : Int64) (hb hby at_5) rfl ?_
    show Steps p.tables e below (T2.setTop (mkF m 6 #[.val (.long p1), .second, .val (.int p2), .val (.int p3), .val (.int p4), .unset, .unset, .unset, .unset, .unset, .unset] [(.long (0 : Int64)), (.long p1), (.int (own_f1 p1))])) _
    refine XT.lcmp X2.here hx rfl (hb hby at_6) rfl ?_
    show Steps p.tables e below (T2.setTop (mkF m 7 #[.val (.long p1), .second, .val (.int p2), .val (.int p3), .val (.int p4), .unset, .unset, .unset, .unset, .unset, .unset] [(.int (XT.cmpL p1 (0 : Int64))), (.int (own_f1 p1))])) _
    exact k
  obtain ⟨w1, qw1⟩ : ∃ z : Int32, z = (if p1 < (0 : Int64) then (0 : Int32) else (1 : Int32)) := ⟨_, rfl⟩
  refine OwnWp.step (U' := T2.setTop (mkF m 15 #[.val (.long p1), .second, .val (.int p2), .val (.int p3), .val (.int p4), .unset, .unset, .unset, .unset, .unset, .unset] [(.int w1), (.int (own_f1 p1))])) (fun t k => ?_) ?_
  · show Steps p.tables e below (T2.setTop (mkF m 7 #[.val (.long p1), .second, .val (.int p2), .val (.int p3), .val (.int p4), .unset, .unset, .unset, .unset, .unset, .unset] [(.int (XT.cmpL p1 (0 : Int64))), (.int (own_f1 p1))])) _
    by_cases c7_3 : p1 < (0 : Int64)
    · refine XS.ifYes X2.here hx rfl (pc0 := 7) (pc' := 14) rfl (hb hby at_7) rfl (XT.ll_lt_t c7_3) (by decide) (by decide) ?_
      show Steps p.tables e below (T2.setTop (mkF m 14 #[.val (.long p1), .second, .val (.int p2), .val (.int p3), .val (.int p4), .unset, .unset, .unset, .unset, .unset, .unset] [(.int (own_f1 p1))])) _
      refine XT.iconstV X2.here hx rfl (0 : Int32) (hb hby at_14) rfl ?_
      show Steps p.tables e below (T2.setTop (mkF m 15 #[.val (.long p1), .second, .val (.int p2), .val (.int p3), .val (.int p4), .unset, .unset, .unset, .unset, .unset, .unset] [(.int (0 : Int32)), (.int (own_f1 p1))])) _
      rw [show w1 = (0 : Int32) from by rw [qw1, if_pos c7_3]] at k
      exact k
    · refine XS.ifNo X2.here hx rfl (hb hby at_7) rfl (XT.ll_lt_f c7_3) ?_
      show Steps p.tables e below (T2.setTop (mkF m 10 #[.val (.long p1), .second, .val (.int p2), .val (.int p3), .val (.int p4), .unset, .unset, .unset, .unset, .unset, .unset] [(.int (own_f1 p1))])) _
      refine XT.iconstV X2.here hx rfl (1 : Int32) (hb hby at_10) rfl ?_
      show Steps p.tables e below (T2.setTop (mkF m 11 #[.val (.long p1), .second, .val (.int p2), .val (.int p3), .val (.int p4), .unset, .unset, .unset, .unset, .unset, .unset] [(.int (1 : Int32)), (.int (own_f1 p1))])) _
      refine XS.goto X2.here hx rfl (pc0 := 11) (pc' := 15) rfl (hb hby at_11) (by decide) (by decide) ?_
      show Steps p.tables e below (T2.setTop (mkF m 15 #[.val (.long p1), .second, .val (.int p2), .val (.int p3), .val (.int p4), .unset, .unset, .unset, .unset, .unset, .unset] [(.int (1 : Int32)), (.int (own_f1 p1))])) _
      rw [show w1 = (1 : Int32) from by rw [qw1, if_neg c7_3]] at k
      exact k
  obtain ⟨w2, qw2⟩ : ∃ z : Int32, z = (if (own_f1 p1) = w1 then (1 : Int32) else (0 : Int32)) := ⟨_, rfl⟩
  refine OwnWp.step (U' := T2.setTop (mkF m 23 #[.val (.long p1), .second, .val (.int p2), .val (.int p3), .val (.int p4), .unset, .unset, .unset, .unset, .unset, .unset] [(.int w2)])) (fun t k => ?_) ?_
  · show Steps p.tables e below (T2.setTop (mkF m 15 #[.val (.long p1), .second, .val (.int p2), .val (.int p3), .val (.int p4), .unset, .unset, .unset, .unset, .unset, .unset] [(.int w1), (.int (own_f1 p1))])) _
    by_cases c15_4 : (own_f1 p1) = w1
    · refine XS.icmpNo X2.here hx rfl (hb hby at_15) rfl (XT.ii_ne_f c15_4) ?_
      show Steps p.tables e below (T2.setTop (mkF m 18 #[.val (.long p1), .second, .val (.int p2), .val (.int p3), .val (.int p4), .unset, .unset, .unset, .unset, .unset, .unset] [])) _
      refine XT.iconstV X2.here hx rfl (1 : Int32) (hb hby at_18) rfl ?_
      show Steps p.tables e below (T2.setTop (mkF m 19 #[.val (.long p1), .second, .val (.int p2), .val (.int p3), .val (.int p4), .unset, .unset, .unset, .unset, .unset, .unset] [(.int (1 : Int32))])) _
      refine XS.goto X2.here hx rfl (pc0 := 19) (pc' := 23) rfl (hb hby at_19) (by decide) (by decide) ?_
      show Steps p.tables e below (T2.setTop (mkF m 23 #[.val (.long p1), .second, .val (.int p2), .val (.int p3), .val (.int p4), .unset, .unset, .unset, .unset, .unset, .unset] [(.int (1 : Int32))])) _
      rw [show w2 = (1 : Int32) from by rw [qw2, if_pos c15_4]] at k
      exact k
    · refine XS.icmpYes X2.here hx rfl (pc0 := 15) (pc' := 22) rfl (hb hby at_15) rfl (XT.ii_ne_t c15_4) (by decide) (by decide) ?_
      show Steps p.tables e below (T2.setTop (mkF m 22 #[.val (.long p1), .second, .val (.int p2), .val (.int p3), .val (.int p4), .unset, .unset, .unset, .unset, .unset, .unset] [])) _
      refine XT.iconstV X2.here hx rfl (0 : Int32) (hb hby at_22) rfl ?_
      show Steps p.tables e below (T2.setTop (mkF m 23 #[.val (.long p1), .second, .val (.int p2), .val (.int p3), .val (.int p4), .unset, .unset, .unset, .unset, .unset, .unset] [(.int (0 : Int32))])) _
      rw [show w2 = (0 : Int32) from by rw [qw2, if_neg c15_4]] at k
      exact k
  refine OwnWp.step (U' := T2.setTop (mkF m 29 #[.val (.long p1), .second, .val (.int p2), .val (.int p3), .val (.int p4), .val (.int w2), .unset, .unset, .unset, .unset, .unset] [(.int (p4 &&& (1 : Int32)))])) (fun t k => ?_) ?_
  · show Steps p.tables e below (T2.setTop (mkF m 23 #[.val (.long p1), .second, .val (.int p2), .val (.int p3), .val (.int p4), .unset, .unset, .unset, .unset, .unset, .unset] [(.int w2)])) _
    refine XS.istore X2.here hx rfl (hb hby at_23) rfl (l' := #[.val (.long p1), .second, .val (.int p2), .val (.int p3), .val (.int p4), .val (.int w2), .unset, .unset, .unset, .unset, .unset]) rfl ?_
    show Steps p.tables e below (T2.setTop (mkF m 25 #[.val (.long p1), .second, .val (.int p2), .val (.int p3), .val (.int p4), .val (.int w2), .unset, .unset, .unset, .unset, .unset] [])) _
    refine XS.iload X2.here hx rfl (hb hby at_25) rfl ?_
    show Steps p.tables e below (T2.setTop (mkF m 27 #[.val (.long p1), .second, .val (.int p2), .val (.int p3), .val (.int p4), .val (.int w2), .unset, .unset, .unset, .unset, .unset] [(.int p4)])) _
    refine XT.iconstV X2.here hx rfl (1 : Int32) (hb hby at_27) rfl ?_
    show Steps p.tables e below (T2.setTop (mkF m 28 #[.val (.long p1), .second, .val (.int p2), .val (.int p3), .val (.int p4), .val (.int w2), .unset, .unset, .unset, .unset, .unset] [(.int (1 : Int32)), (.int p4)])) _
    refine XS.iand X2.here hx rfl (hb hby at_28) rfl ?_
    show Steps p.tables e below (T2.setTop (mkF m 29 #[.val (.long p1), .second, .val (.int p2), .val (.int p3), .val (.int p4), .val (.int w2), .unset, .unset, .unset, .unset, .unset] [(.int (p4 &&& (1 : Int32)))])) _
    exact k
  obtain ⟨w3, qw3⟩ : ∃ z : Int32, z = (if (p4 &&& (1 : Int32)) = (0 : Int32) then (0 : Int32) else (1 : Int32)) := ⟨_, rfl⟩
  refine OwnWp.step (U' := T2.setTop (mkF m 37 #[.val (.long p1), .second, .val (.int p2), .val (.int p3), .val (.int p4), .val (.int w2), .unset, .unset, .unset, .unset, .unset] [(.int w3)])) (fun t k => ?_) ?_
  · show Steps p.tables e below (T2.setTop (mkF m 29 #[.val (.long p1), .second, .val (.int p2), .val (.int p3), .val (.int p4), .val (.int w2), .unset, .unset, .unset, .unset, .unset] [(.int (p4 &&& (1 : Int32)))])) _
    by_cases c29_5 : (p4 &&& (1 : Int32)) = (0 : Int32)
    · refine XS.ifYes X2.here hx rfl (pc0 := 29) (pc' := 36) rfl (hb hby at_29) rfl (XT.i0_eq_t c29_5) (by decide) (by decide) ?_
      show Steps p.tables e below (T2.setTop (mkF m 36 #[.val (.long p1), .second, .val (.int p2), .val (.int p3), .val (.int p4), .val (.int w2), .unset, .unset, .unset, .unset, .unset] [])) _
      refine XT.iconstV X2.here hx rfl (0 : Int32) (hb hby at_36) rfl ?_
      show Steps p.tables e below (T2.setTop (mkF m 37 #[.val (.long p1), .second, .val (.int p2), .val (.int p3), .val (.int p4), .val (.int w2), .unset, .unset, .unset, .unset, .unset] [(.int (0 : Int32))])) _
      rw [show w3 = (0 : Int32) from by rw [qw3, if_pos c29_5]] at k
      exact k
    · refine XS.ifNo X2.here hx rfl (hb hby at_29) rfl (XT.i0_eq_f c29_5) ?_
      show Steps p.tables e below (T2.setTop (mkF m 32 #[.val (.long p1), .second, .val (.int p2), .val (.int p3), .val (.int p4), .val (.int w2), .unset, .unset, .unset, .unset, .unset] [])) _
      refine XT.iconstV X2.here hx rfl (1 : Int32) (hb hby at_32) rfl ?_
      show Steps p.tables e below (T2.setTop (mkF m 33 #[.val (.long p1), .second, .val (.int p2), .val (.int p3), .val (.int p4), .val (.int w2), .unset, .unset, .unset, .unset, .unset] [(.int (1 : Int32))])) _
      refine XS.goto X2.here hx rfl (pc0 := 33) (pc' := 37) rfl (hb hby at_33) (by decide) (by decide) ?_
      show Steps p.tables e below (T2.setTop (mkF m 37 #[.val (.long p1), .second, .val (.int p2), .val (.int p3), .val (.int p4), .val (.int w2), .unset, .unset, .unset, .unset, .unset] [(.int (1 : Int32))])) _
      rw [show w3 = (1 : Int32) from by rw [qw3, if_neg c29_5]] at k
      exact k
  refine OwnWp.step (U' := T2.setTop (mkF m 41 #[.val (.long p1), .second, .val (.int p2), .val (.int p3), .val (.int p4), .val (.int w2), .val (.int w3), .unset, .unset, .unset, .unset] [(.int w3)])) (fun t k => ?_) ?_
  · show Steps p.tables e below (T2.setTop (mkF m 37 #[.val (.long p1), .second, .val (.int p2), .val (.int p3), .val (.int p4), .val (.int w2), .unset, .unset, .unset, .unset, .unset] [(.int w3)])) _
    refine XS.istore X2.here hx rfl (hb hby at_37) rfl (l' := #[.val (.long p1), .second, .val (.int p2), .val (.int p3), .val (.int p4), .val (.int w2), .val (.int w3), .unset, .unset, .unset, .unset]) rfl ?_
    show Steps p.tables e below (T2.setTop (mkF m 39 #[.val (.long p1), .second, .val (.int p2), .val (.int p3), .val (.int p4), .val (.int w2), .val (.int w3), .unset, .unset, .unset, .unset] [])) _
    refine XS.iload X2.here hx rfl (hb hby at_39) rfl ?_
    show Steps p.tables e below (T2.setTop (mkF m 41 #[.val (.long p1), .second, .val (.int p2), .val (.int p3), .val (.int p4), .val (.int w2), .val (.int w3), .unset, .unset, .unset, .unset] [(.int w3)])) _
    exact k
  obtain ⟨w4, qw4⟩ : ∃ z : Int32, z = (if w3 = (0 : Int32) then (p2 ||| ((-2147483648) : Int32)) else (p2 &&& (2147483647 : Int32))) := ⟨_, rfl⟩
  refine OwnWp.step (U' := T2.setTop (mkF m 55 #[.val (.long p1), .second, .val (.int p2), .val (.int p3), .val (.int p4), .val (.int w2), .val (.int w3), .unset, .unset, .unset, .unset] [(.int w4)])) (fun t k => ?_) ?_
  · show Steps p.tables e below (T2.setTop (mkF m 41 #[.val (.long p1), .second, .val (.int p2), .val (.int p3), .val (.int p4), .val (.int w2), .val (.int w3), .unset, .unset, .unset, .unset] [(.int w3)])) _
    by_cases c41_6 : w3 = (0 : Int32)
    · refine XS.ifYes X2.here hx rfl (pc0 := 41) (pc' := 51) rfl (hb hby at_41) rfl (XT.i0_eq_t c41_6) (by decide) (by decide) ?_
      show Steps p.tables e below (T2.setTop (mkF m 51 #[.val (.long p1), .second, .val (.int p2), .val (.int p3), .val (.int p4), .val (.int w2), .val (.int w3), .unset, .unset, .unset, .unset] [])) _
      refine XS.iloadN X2.here hx rfl (hb hby at_51) rfl ?_
      show Steps p.tables e below (T2.setTop (mkF m 52 #[.val (.long p1), .second, .val (.int p2), .val (.int p3), .val (.int p4), .val (.int w2), .val (.int w3), .unset, .unset, .unset, .unset] [(.int p2)])) _
      refine X2.ldcI hx hown (mvT hZ (hw _ (List.mem_of_getElem? (i := 5) rfl))) rfl (hb hby at_52) ?_
      show Steps p.tables e below (T2.setTop (mkF m 54 #[.val (.long p1), .second, .val (.int p2), .val (.int p3), .val (.int p4), .val (.int w2), .val (.int w3), .unset, .unset, .unset, .unset] [(.int ((-2147483648) : Int32)), (.int p2)])) _
      refine XT.ior X2.here hx rfl (hb hby at_54) rfl ?_
      show Steps p.tables e below (T2.setTop (mkF m 55 #[.val (.long p1), .second, .val (.int p2), .val (.int p3), .val (.int p4), .val (.int w2), .val (.int w3), .unset, .unset, .unset, .unset] [(.int (p2 ||| ((-2147483648) : Int32)))])) _
      rw [show w4 = (p2 ||| ((-2147483648) : Int32)) from by rw [qw4, if_pos c41_6]] at k
      exact k
    · refine XS.ifNo X2.here hx rfl (hb hby at_41) rfl (XT.i0_eq_f c41_6) ?_
      show Steps p.tables e below (T2.setTop (mkF m 44 #[.val (.long p1), .second, .val (.int p2), .val (.int p3), .val (.int p4), .val (.int w2), .val (.int w3), .unset, .unset, .unset, .unset] [])) _
      refine XS.iloadN X2.here hx rfl (hb hby at_44) rfl ?_
      show Steps p.tables e below (T2.setTop (mkF m 45 #[.val (.long p1), .second, .val (.int p2), .val (.int p3), .val (.int p4), .val (.int w2), .val (.int w3), .unset, .unset, .unset, .unset] [(.int p2)])) _
      refine X2.ldcI hx hown (mvT hZ (hw _ (List.mem_of_getElem? (i := 7) rfl))) rfl (hb hby at_45) ?_
      show Steps p.tables e below (T2.setTop (mkF m 47 #[.val (.long p1), .second, .val (.int p2), .val (.int p3), .val (.int p4), .val (.int w2), .val (.int w3), .unset, .unset, .unset, .unset] [(.int (2147483647 : Int32)), (.int p2)])) _
      refine XS.iand X2.here hx rfl (hb hby at_47) rfl ?_
      show Steps p.tables e below (T2.setTop (mkF m 48 #[.val (.long p1), .second, .val (.int p2), .val (.int p3), .val (.int p4), .val (.int w2), .val (.int w3), .unset, .unset, .unset, .unset] [(.int (p2 &&& (2147483647 : Int32)))])) _
      refine XS.goto X2.here hx rfl (pc0 := 48) (pc' := 55) rfl (hb hby at_48) (by decide) (by decide) ?_
      show Steps p.tables e below (T2.setTop (mkF m 55 #[.val (.long p1), .second, .val (.int p2), .val (.int p3), .val (.int p4), .val (.int w2), .val (.int w3), .unset, .unset, .unset, .unset] [(.int (p2 &&& (2147483647 : Int32)))])) _
      rw [show w4 = (p2 &&& (2147483647 : Int32)) from by rw [qw4, if_neg c41_6]] at k
      exact k
  obtain ⟨w5, qw5⟩ : ∃ z : Int64, z = ((w4.toInt64 <<< ((32 : Int32).toInt64 &&& 63)) ||| (p3.toInt64 &&& (4294967295 : Int64))) := ⟨_, rfl⟩
  refine OwnWp.step (U' := T2.setTop (mkF m 72 #[.val (.long p1), .second, .val (.int p2), .val (.int p3), .val (.int p4), .val (.int w2), .val (.int w3), .val (.int w4), .val (.long w5), .second, .unset] [])) (fun t k => ?_) ?_
  · show Steps p.tables e below (T2.setTop (mkF m 55 #[.val (.long p1), .second, .val (.int p2), .val (.int p3), .val (.int p4), .val (.int w2), .val (.int w3), .unset, .unset, .unset, .unset] [(.int w4)])) _
    refine XS.istore X2.here hx rfl (hb hby at_55) rfl (l' := #[.val (.long p1), .second, .val (.int p2), .val (.int p3), .val (.int p4), .val (.int w2), .val (.int w3), .val (.int w4), .unset, .unset, .unset]) rfl ?_
    show Steps p.tables e below (T2.setTop (mkF m 57 #[.val (.long p1), .second, .val (.int p2), .val (.int p3), .val (.int p4), .val (.int w2), .val (.int w3), .val (.int w4), .unset, .unset, .unset] [])) _
    refine XS.iload X2.here hx rfl (hb hby at_57) rfl ?_
    show Steps p.tables e below (T2.setTop (mkF m 59 #[.val (.long p1), .second, .val (.int p2), .val (.int p3), .val (.int p4), .val (.int w2), .val (.int w3), .val (.int w4), .unset, .unset, .unset] [(.int w4)])) _
    refine XT.i2l X2.here hx rfl (hb hby at_59) rfl ?_
    show Steps p.tables e below (T2.setTop (mkF m 60 #[.val (.long p1), .second, .val (.int p2), .val (.int p3), .val (.int p4), .val (.int w2), .val (.int w3), .val (.int w4), .unset, .unset, .unset] [(.long w4.toInt64)])) _
    refine XT.bipushV X2.here hx rfl (32 : Int32) (hb hby at_60) rfl ?_
    show Steps p.tables e below (T2.setTop (mkF m 62 #[.val (.long p1), .second, .val (.int p2), .val (.int p3), .val (.int p4), .val (.int w2), .val (.int w3), .val (.int w4), .unset, .unset, .unset] [(.int (32 : Int32)), (.long w4.toInt64)])) _
    refine XT.lshl X2.here hx rfl (hb hby at_62) rfl ?_
    show Steps p.tables e below (T2.setTop (mkF m 63 #[.val (.long p1), .second, .val (.int p2), .val (.int p3), .val (.int p4), .val (.int w2), .val (.int w3), .val (.int w4), .unset, .unset, .unset] [(.long (w4.toInt64 <<< ((32 : Int32).toInt64 &&& 63)))])) _
    refine XS.iloadN X2.here hx rfl (hb hby at_63) rfl ?_
    show Steps p.tables e below (T2.setTop (mkF m 64 #[.val (.long p1), .second, .val (.int p2), .val (.int p3), .val (.int p4), .val (.int w2), .val (.int w3), .val (.int w4), .unset, .unset, .unset] [(.int p3), (.long (w4.toInt64 <<< ((32 : Int32).toInt64 &&& 63)))])) _
    refine XT.i2l X2.here hx rfl (hb hby at_64) rfl ?_
    show Steps p.tables e below (T2.setTop (mkF m 65 #[.val (.long p1), .second, .val (.int p2), .val (.int p3), .val (.int p4), .val (.int w2), .val (.int w3), .val (.int w4), .unset, .unset, .unset] [(.long p3.toInt64), (.long (w4.toInt64 <<< ((32 : Int32).toInt64 &&& 63)))])) _
    refine X2.ldc2J hx hown (mvT hZ (hw _ (List.mem_of_getElem? (i := 6) rfl))) rfl (hb hby at_65) ?_
    show Steps p.tables e below (T2.setTop (mkF m 68 #[.val (.long p1), .second, .val (.int p2), .val (.int p3), .val (.int p4), .val (.int w2), .val (.int w3), .val (.int w4), .unset, .unset, .unset] [(.long (4294967295 : Int64)), (.long p3.toInt64), (.long (w4.toInt64 <<< ((32 : Int32).toInt64 &&& 63)))])) _
    refine XT.land X2.here hx rfl (hb hby at_68) rfl ?_
    show Steps p.tables e below (T2.setTop (mkF m 69 #[.val (.long p1), .second, .val (.int p2), .val (.int p3), .val (.int p4), .val (.int w2), .val (.int w3), .val (.int w4), .unset, .unset, .unset] [(.long (p3.toInt64 &&& (4294967295 : Int64))), (.long (w4.toInt64 <<< ((32 : Int32).toInt64 &&& 63)))])) _
    refine XT.lor X2.here hx rfl (hb hby at_69) rfl ?_
    show Steps p.tables e below (T2.setTop (mkF m 70 #[.val (.long p1), .second, .val (.int p2), .val (.int p3), .val (.int p4), .val (.int w2), .val (.int w3), .val (.int w4), .unset, .unset, .unset] [(.long ((w4.toInt64 <<< ((32 : Int32).toInt64 &&& 63)) ||| (p3.toInt64 &&& (4294967295 : Int64))))])) _
    refine XT.lstore X2.here hx rfl (hb hby at_70) rfl (l' := #[.val (.long p1), .second, .val (.int p2), .val (.int p3), .val (.int p4), .val (.int w2), .val (.int w3), .val (.int w4), .val (.long ((w4.toInt64 <<< ((32 : Int32).toInt64 &&& 63)) ||| (p3.toInt64 &&& (4294967295 : Int64)))), .second, .unset]) rfl ?_
    show Steps p.tables e below (T2.setTop (mkF m 72 #[.val (.long p1), .second, .val (.int p2), .val (.int p3), .val (.int p4), .val (.int w2), .val (.int w3), .val (.int w4), .val (.long ((w4.toInt64 <<< ((32 : Int32).toInt64 &&& 63)) ||| (p3.toInt64 &&& (4294967295 : Int64)))), .second, .unset] [])) _
    rw [qw5] at k
    exact k
  refine OwnWp.step (U' := T2.setTop (mkF m 74 #[.val (.long p1), .second, .val (.int p2), .val (.int p3), .val (.int p4), .val (.int w2), .val (.int w3), .val (.int w4), .val (.long w5), .second, .unset] [(.long w5)])) (fun t k => ?_) ?_
  · show Steps p.tables e below (T2.setTop (mkF m 72 #[.val (.long p1), .second, .val (.int p2), .val (.int p3), .val (.int p4), .val (.int w2), .val (.int w3), .val (.int w4), .val (.long w5), .second, .unset] [])) _
    refine XT.lload X2.here hx rfl (hb hby at_72) rfl ?_
    show Steps p.tables e below (T2.setTop (mkF m 74 #[.val (.long p1), .second, .val (.int p2), .val (.int p3), .val (.int p4), .val (.int w2), .val (.int w3), .val (.int w4), .val (.long w5), .second, .unset] [(.long w5)])) _
    exact k
  show OwnWp p e below s _ _ _ (T2.setTop (mkF m 74 #[.val (.long p1), .second, .val (.int p2), .val (.int p3), .val (.int p4), .val (.int w2), .val (.int w3), .val (.int w4), .val (.long w5), .second, .unset] [(.long w5)]))
  obtain ⟨_, _, ⟨T7, L7, k7, n7⟩, -, X7, ⟨Lc7, hQ7, l7, y7, z7⟩, st7⟩ := Jvm.LawKit.callS X2 hx (y := (⟨"leafrun/log/FrameHead", "isForced", "(J)Z"⟩ : MethodName)) hown (mvT hZ (hw _ (List.mem_of_getElem? (i := 0) rfl))) (mvT hZ (hw _ (List.mem_of_getElem? (i := 1) rfl))) (mvT hZ (hw _ (List.mem_of_getElem? (i := 2) rfl))) (mvT hZ (hw _ (List.mem_of_getElem? (i := 3) rfl))) (by decide) (backOf (W := 0) (rm1 l Z a0 hw [] w5 h0 n0 Z0 ) hZ (hw _ (List.mem_of_getElem? (i := 3) rfl)) (hw _ (List.mem_of_getElem? (i := 2) rfl)) (by decide) (by decide)) (g := (mkF m 74 #[.val (.long p1), .second, .val (.int p2), .val (.int p3), .val (.int p4), .val (.int w2), .val (.int w3), .val (.int w4), .val (.long w5), .second, .unset] [(.long w5)])) rfl (by rw [hml]; rfl) (argsL := [(.long w5)]) (rest := []) (lenOf pd_1 rfl) rfl (by show 2 * 0 + _ ≤ _; exact Nat.le_of_eq rfl) (hb hby at_74) (fun _ _ => ⟨rfl, eh2, (by dsimp only [Pt.cells]; decide), (by dsimp only [Pt.slots]; decide)⟩)
  dsimp only [Pt.U, Pt.locs, Pt.cells, Pt.slots] at X7 l7 y7 z7 st7 hQ7
  subst l7 y7 z7
  obtain ⟨rfl, Nc7, hp7⟩ := hQ7
  have N7 := Fr.app N2 Nc7
  refine OwnWp.step st7 ?_
  have eh7 : T7.heap = h0 := hp7
  show OwnWp p e below s _ _ _ (T7.setTop (mkF m 77 #[.val (.long p1), .second, .val (.int p2), .val (.int p3), .val (.int p4), .val (.int w2), .val (.int w3), .val (.int w4), .val (.long w5), .second, .unset] [(.int (own_f1 w5))]))
  refine OwnWp.step (U' := T7.setTop (mkF m 79 #[.val (.long p1), .second, .val (.int p2), .val (.int p3), .val (.int p4), .val (.int w2), .val (.int w3), .val (.int w4), .val (.long w5), .second, .unset] [(.int w3), (.int (own_f1 w5))])) (fun t k => ?_) ?_
  · show Steps p.tables e below (T7.setTop (mkF m 77 #[.val (.long p1), .second, .val (.int p2), .val (.int p3), .val (.int p4), .val (.int w2), .val (.int w3), .val (.int w4), .val (.long w5), .second, .unset] [(.int (own_f1 w5))])) _
    refine XS.iload X7.here hx rfl (hb hby at_77) rfl ?_
    show Steps p.tables e below (T7.setTop (mkF m 79 #[.val (.long p1), .second, .val (.int p2), .val (.int p3), .val (.int p4), .val (.int w2), .val (.int w3), .val (.int w4), .val (.long w5), .second, .unset] [(.int w3), (.int (own_f1 w5))])) _
    exact k
  obtain ⟨w6, qw6⟩ : ∃ z : Int32, z = (if (own_f1 w5) = w3 then (1 : Int32) else (0 : Int32)) := ⟨_, rfl⟩
  refine OwnWp.step (U' := T7.setTop (mkF m 87 #[.val (.long p1), .second, .val (.int p2), .val (.int p3), .val (.int p4), .val (.int w2), .val (.int w3), .val (.int w4), .val (.long w5), .second, .unset] [(.int w6)])) (fun t k => ?_) ?_
  · show Steps p.tables e below (T7.setTop (mkF m 79 #[.val (.long p1), .second, .val (.int p2), .val (.int p3), .val (.int p4), .val (.int w2), .val (.int w3), .val (.int w4), .val (.long w5), .second, .unset] [(.int w3), (.int (own_f1 w5))])) _
    by_cases c79_8 : (own_f1 w5) = w3
    · refine XS.icmpNo X7.here hx rfl (hb hby at_79) rfl (XT.ii_ne_f c79_8) ?_
      show Steps p.tables e below (T7.setTop (mkF m 82 #[.val (.long p1), .second, .val (.int p2), .val (.int p3), .val (.int p4), .val (.int w2), .val (.int w3), .val (.int w4), .val (.long w5), .second, .unset] [])) _
      refine XT.iconstV X7.here hx rfl (1 : Int32) (hb hby at_82) rfl ?_
      show Steps p.tables e below (T7.setTop (mkF m 83 #[.val (.long p1), .second, .val (.int p2), .val (.int p3), .val (.int p4), .val (.int w2), .val (.int w3), .val (.int w4), .val (.long w5), .second, .unset] [(.int (1 : Int32))])) _
      refine XS.goto X7.here hx rfl (pc0 := 83) (pc' := 87) rfl (hb hby at_83) (by decide) (by decide) ?_
      show Steps p.tables e below (T7.setTop (mkF m 87 #[.val (.long p1), .second, .val (.int p2), .val (.int p3), .val (.int p4), .val (.int w2), .val (.int w3), .val (.int w4), .val (.long w5), .second, .unset] [(.int (1 : Int32))])) _
      rw [show w6 = (1 : Int32) from by rw [qw6, if_pos c79_8]] at k
      exact k
    · refine XS.icmpYes X7.here hx rfl (pc0 := 79) (pc' := 86) rfl (hb hby at_79) rfl (XT.ii_ne_t c79_8) (by decide) (by decide) ?_
      show Steps p.tables e below (T7.setTop (mkF m 86 #[.val (.long p1), .second, .val (.int p2), .val (.int p3), .val (.int p4), .val (.int w2), .val (.int w3), .val (.int w4), .val (.long w5), .second, .unset] [])) _
      refine XT.iconstV X7.here hx rfl (0 : Int32) (hb hby at_86) rfl ?_
      show Steps p.tables e below (T7.setTop (mkF m 87 #[.val (.long p1), .second, .val (.int p2), .val (.int p3), .val (.int p4), .val (.int w2), .val (.int w3), .val (.int w4), .val (.long w5), .second, .unset] [(.int (0 : Int32))])) _
      rw [show w6 = (0 : Int32) from by rw [qw6, if_neg c79_8]] at k
      exact k
  refine OwnWp.step (U' := T7.setTop (mkF m 91 #[.val (.long p1), .second, .val (.int p2), .val (.int p3), .val (.int p4), .val (.int w2), .val (.int w3), .val (.int w4), .val (.long w5), .second, .val (.int w6)] [(.int w2)])) (fun t k => ?_) ?_
  · show Steps p.tables e below (T7.setTop (mkF m 87 #[.val (.long p1), .second, .val (.int p2), .val (.int p3), .val (.int p4), .val (.int w2), .val (.int w3), .val (.int w4), .val (.long w5), .second, .unset] [(.int w6)])) _
    refine XS.istore X7.here hx rfl (hb hby at_87) rfl (l' := #[.val (.long p1), .second, .val (.int p2), .val (.int p3), .val (.int p4), .val (.int w2), .val (.int w3), .val (.int w4), .val (.long w5), .second, .val (.int w6)]) rfl ?_
    show Steps p.tables e below (T7.setTop (mkF m 89 #[.val (.long p1), .second, .val (.int p2), .val (.int p3), .val (.int p4), .val (.int w2), .val (.int w3), .val (.int w4), .val (.long w5), .second, .val (.int w6)] [])) _
    refine XS.iload X7.here hx rfl (hb hby at_89) rfl ?_
    show Steps p.tables e below (T7.setTop (mkF m 91 #[.val (.long p1), .second, .val (.int p2), .val (.int p3), .val (.int p4), .val (.int w2), .val (.int w3), .val (.int w4), .val (.long w5), .second, .val (.int w6)] [(.int w2)])) _
    exact k
  obtain ⟨w7, qw7⟩ : ∃ z : Int32, z = (if w2 = (0 : Int32) then (0 : Int32) else (if w6 = (0 : Int32) then (0 : Int32) else (1 : Int32))) := ⟨_, rfl⟩
  refine OwnWp.step (U' := T7.setTop (mkF m 104 #[.val (.long p1), .second, .val (.int p2), .val (.int p3), .val (.int p4), .val (.int w2), .val (.int w3), .val (.int w4), .val (.long w5), .second, .val (.int w6)] [(.int w7)])) (fun t k => ?_) ?_
  · show Steps p.tables e below (T7.setTop (mkF m 91 #[.val (.long p1), .second, .val (.int p2), .val (.int p3), .val (.int p4), .val (.int w2), .val (.int w3), .val (.int w4), .val (.long w5), .second, .val (.int w6)] [(.int w2)])) _
    by_cases c91_9 : w2 = (0 : Int32)
    · refine XS.ifYes X7.here hx rfl (pc0 := 91) (pc' := 103) rfl (hb hby at_91) rfl (XT.i0_eq_t c91_9) (by decide) (by decide) ?_
      show Steps p.tables e below (T7.setTop (mkF m 103 #[.val (.long p1), .second, .val (.int p2), .val (.int p3), .val (.int p4), .val (.int w2), .val (.int w3), .val (.int w4), .val (.long w5), .second, .val (.int w6)] [])) _
      refine XT.iconstV X7.here hx rfl (0 : Int32) (hb hby at_103) rfl ?_
      show Steps p.tables e below (T7.setTop (mkF m 104 #[.val (.long p1), .second, .val (.int p2), .val (.int p3), .val (.int p4), .val (.int w2), .val (.int w3), .val (.int w4), .val (.long w5), .second, .val (.int w6)] [(.int (0 : Int32))])) _
      rw [show w7 = (0 : Int32) from by rw [qw7, if_pos c91_9]] at k
      exact k
    · refine XS.ifNo X7.here hx rfl (hb hby at_91) rfl (XT.i0_eq_f c91_9) ?_
      show Steps p.tables e below (T7.setTop (mkF m 94 #[.val (.long p1), .second, .val (.int p2), .val (.int p3), .val (.int p4), .val (.int w2), .val (.int w3), .val (.int w4), .val (.long w5), .second, .val (.int w6)] [])) _
      refine XS.iload X7.here hx rfl (hb hby at_94) rfl ?_
      show Steps p.tables e below (T7.setTop (mkF m 96 #[.val (.long p1), .second, .val (.int p2), .val (.int p3), .val (.int p4), .val (.int w2), .val (.int w3), .val (.int w4), .val (.long w5), .second, .val (.int w6)] [(.int w6)])) _
      by_cases c96_10 : w6 = (0 : Int32)
      · refine XS.ifYes X7.here hx rfl (pc0 := 96) (pc' := 103) rfl (hb hby at_96) rfl (XT.i0_eq_t c96_10) (by decide) (by decide) ?_
        show Steps p.tables e below (T7.setTop (mkF m 103 #[.val (.long p1), .second, .val (.int p2), .val (.int p3), .val (.int p4), .val (.int w2), .val (.int w3), .val (.int w4), .val (.long w5), .second, .val (.int w6)] [])) _
        refine XT.iconstV X7.here hx rfl (0 : Int32) (hb hby at_103) rfl ?_
        show Steps p.tables e below (T7.setTop (mkF m 104 #[.val (.long p1), .second, .val (.int p2), .val (.int p3), .val (.int p4), .val (.int w2), .val (.int w3), .val (.int w4), .val (.long w5), .second, .val (.int w6)] [(.int (0 : Int32))])) _
        rw [show w7 = (0 : Int32) from by rw [qw7, if_neg c91_9, if_pos c96_10]] at k
        exact k
      · refine XS.ifNo X7.here hx rfl (hb hby at_96) rfl (XT.i0_eq_f c96_10) ?_
        show Steps p.tables e below (T7.setTop (mkF m 99 #[.val (.long p1), .second, .val (.int p2), .val (.int p3), .val (.int p4), .val (.int w2), .val (.int w3), .val (.int w4), .val (.long w5), .second, .val (.int w6)] [])) _
        refine XT.iconstV X7.here hx rfl (1 : Int32) (hb hby at_99) rfl ?_
        show Steps p.tables e below (T7.setTop (mkF m 100 #[.val (.long p1), .second, .val (.int p2), .val (.int p3), .val (.int p4), .val (.int w2), .val (.int w3), .val (.int w4), .val (.long w5), .second, .val (.int w6)] [(.int (1 : Int32))])) _
        refine XS.goto X7.here hx rfl (pc0 := 100) (pc' := 104) rfl (hb hby at_100) (by decide) (by decide) ?_
        show Steps p.tables e below (T7.setTop (mkF m 104 #[.val (.long p1), .second, .val (.int p2), .val (.int p3), .val (.int p4), .val (.int w2), .val (.int w3), .val (.int w4), .val (.long w5), .second, .val (.int w6)] [(.int (1 : Int32))])) _
        rw [show w7 = (1 : Int32) from by rw [qw7, if_neg c91_9, if_neg c96_10]] at k
        exact k
  have hfin := (own_law p1 p2 p3 p4 w1 qw1 w2 qw2 w3 qw3 w4 qw4 w5 qw5 w6 qw6 w7 qw7)
  refine OwnWp.retZ X7 hx hlk Bd.returns (hb hby at_104) (by decide) (by decide) (Or.inr hfin) ?_
  exact ⟨by rw [hfin], N7⟩
set_option maxRecDepth 65536 in
set_option maxHeartbeats 40000000 in
theorem comes_1 {Post : Tables → Env → Array Value → State → Outcome → State → Prop} (hpost : ∀ tb e args s v u, (limb_1_1.after args s (.returned v) u = true ∧ limb_1_2.after args s (.returned v) u = true ∧ True) → FrameEnd s (.returned v) u (Jvm.fieldLocs frame_1_writes args s ++ Jvm.arrayLocs frame_1_arrays args s ++ Jvm.staticLocs frame_1_statics s) 0 0 → Post tb e args s (.returned v) u) :
    ArmFor flags0 classFile x code maxLocals ret World_1 tables_1 room_1 Calls_1 rest_1 Pre_1 Post := by
  intro l hfl _ _ p e ha hc hk s m args below hf hA hF happ hP
  obtain ⟨hcalls, hrest, hpre⟩ := hP
  obtain ⟨-, -, -, hnamed, -, -, -, hat⟩ := (Spec.applies_iff hf).mp happ
  obtain ⟨hg, hn⟩ := and_e (Cond.before_iff.mp (show (Jvm.Cond.and given_1 narrow_1).before args s = true from hpre))
  obtain ⟨hcount, g0⟩ := and_e hg
  obtain ⟨w0, w1, w2, w3, rfl⟩ : ∃ w0 w1 w2 w3 : Value, args = #[w0, w1, w2, w3] := by
    have hs : args.size = 4 := by simpa [Cond.value, given_1] using hcount
    obtain ⟨L⟩ := args
    match L, hs with
    | [w0, w1, w2, w3], _ => exact ⟨w0, w1, w2, w3, rfl⟩
  have hw := fun d (hd : d ∈ tables_1) => atoms_spec (ws := Jvm.Cond.code x code maxLocals ret :: tables_1) hat d (List.mem_cons_of_mem _ hd)
  obtain ⟨u0, g1⟩ := and_e g0
  obtain ⟨i0, e0⟩ := isL_v u0
  obtain rfl : w0 = (.long i0) := Option.some.inj e0
  obtain ⟨u1, g2⟩ := and_e g1
  obtain ⟨i1, e1⟩ := is_v u1
  obtain rfl : w1 = (.int i1) := Option.some.inj e1
  obtain ⟨u2, g3⟩ := and_e g2
  obtain ⟨i2, e2⟩ := is_v u2
  obtain rfl : w2 = (.int i2) := Option.some.inj e2
  obtain ⟨i3, e3⟩ := is_v g3
  obtain rfl : w3 = (.int i3) := Option.some.inj e3
  obtain ⟨n, o, h1, h2, h3, _, L, rfl, ⟨rfl, N⟩, hq⟩ := rm0 l s _ hw tables_1 i0 i1 i2 i3 s.heap s.heap.size (Nat.le_refl _) p e ha hc hk s m _ below hf ((Spec.applies_iff_loose hf).mp happ).1 ⟨rfl, State.Warmed39.refl s, rfl⟩ trivial
  refine ⟨n, _, h1, h2, h3, hpost _ _ _ _ _ _ ⟨Cond.after_iff.mpr rfl, Cond.after_iff.mpr (eq_i res_at (Term.int_eval (1)) rfl), trivial⟩ ⟨hq.1, hq.2.1, (hq.2.2.sift fun y hy => Or.inr (N y hy)).mono (by decide) (by decide)⟩⟩
theorem main_1_1 : Claimed_1_1 := comes_1 fun _ _ _ _ _ _ h hF => ⟨h.1, hF⟩
theorem main_1_2 : Claimed_1_2 := comes_1 fun _ _ _ _ _ _ h hF => ⟨h.2.1, hF⟩
end Jvm.Pilot.@@N@@
namespace Jvm.Pilot.@@N@@
open Jvm Jvm.ClassFile Sem Op Lib Jvm.Free Jvm.Stand Jvm.Pilot.@@N@@.Jvm.D
/-! MADE BY PROGRAM (witnessworld.py) out of the Statement's table words and the real class files: 9 classes; the members and pool entries that the words name. The judged class is class 1, her method 1. -/
namespace start1
open Jvm.ClassFile
def u (s : String) : CpInfo := .utf8 (stringToUtf16 s)
/-- a pool by its gaps: so many unusable entries, then the entry; so many at the end -/
def gap : Nat → List CpInfo → List CpInfo
  | 0, r => r
  | n + 1, r => .unusable :: gap n r
def poolList (es : List (Nat × CpInfo)) (last : Nat) : List CpInfo := es.foldr (fun e r => gap e.1 (e.2 :: r)) (gap last [])
def pool (es : List (Nat × CpInfo)) (last : Nat) : Array CpInfo := ⟨poolList es last⟩
def fileOf (pool : Array CpInfo) (this : Nat) (attrs : Array Attribute := #[]) (ms : Array MethodInfo := #[]) (fl : Nat := 33) (sup : Nat := 0) (ifs : Array Nat := #[]) (fds : Array FieldInfo := #[]) : ClassFile where
  minorVersion := 0
  majorVersion := 65
  constantPool := pool
  accessFlags := fl
  thisClass := this
  superClass := sup
  interfaces := ifs
  fields := fds
  methods := ms
  attributes := attrs
def plain (name : String) (sup : Option ClassId) : Class where
  name := name
  kind := .ordinary
  loader := none
  accessFlags := 33
  super := sup
  interfaces := #[]
  cf := none
  fields := #[]
  methods := #[]
  instanceTypes := #[]
  staticTypes := #[]
  resolved := #[]
  callSites := []
  init := .initialized
  statics := none
  mirror := none

def pool0 : Array CpInfo := pool [(5, u "<init>"), (0, u "()V"), (1, .class_ 10), (1, u "java/lang/Object")] 113

def k0m0 : Method := { name := "<init>", desc := "()V", sig := { parameters := [], returnType := none }, accessFlags := 1, code := none }
/-- java/lang/Object -/
def k0 : Class := { plain "java/lang/Object" none with
  accessFlags := 33
  interfaces := #[]
  cf := some (fileOf pool0 8 #[] #[{ accessFlags := 1, nameIndex := 5, descriptorIndex := 6, attributes := #[] }] 33 0 #[] #[])
  fields := #[]
  methods := #[k0m0]
  instanceTypes := #[]
  staticTypes := #[]
  resolved := Array.replicate 124 none
  statics := none }

def pool1 : Array CpInfo := pool [(2, .class_ 4), (1, u "java/lang/Object"), (0, u "<init>"), (0, u "()V"), (0, .methodref 8 9), (0, .class_ 10), (0, .nameAndType 11 12), (0, u "leafrun/log/FrameHead"), (0, u "isForced"), (0, u "(J)Z"), (0, .integer 2147483647), (0, .integer 2147483648), (0, .long 4294967295), (1, .class_ 18), (0, u "leafrun/log/FrameHeadIsForcedPinLaw"), (2, u "law"), (0, u "(JIII)Z")] 3

def k1m0 : Method := { name := "<init>", desc := "()V", sig := { parameters := [], returnType := none }, accessFlags := 1, code := none }
def k1c1 : Code := { maxStack := 6, maxLocals := 11, code := code, exceptionTable := #[], attributes := #[] }
def k1m1 : Method := { name := "law", desc := "(JIII)Z", sig := { parameters := [.long, .int, .int, .int], returnType := some .boolean }, accessFlags := 9, code := some k1c1 }
/-- leafrun/log/FrameHeadIsForcedPinLaw -/
def k1 : Class := { plain "leafrun/log/FrameHeadIsForcedPinLaw" (some 0) with
  accessFlags := 49
  interfaces := #[]
  cf := some (fileOf pool1 17 #[] #[{ accessFlags := 1, nameIndex := 5, descriptorIndex := 6, attributes := #[] }, { accessFlags := 9, nameIndex := 21, descriptorIndex := 22, attributes := #[] }] 49 2 #[] #[])
  fields := #[]
  methods := #[k1m0, k1m1]
  instanceTypes := #[]
  staticTypes := #[]
  resolved := Array.replicate 26 none
  statics := none }

def pool2 : Array CpInfo := pool [(2, .class_ 4), (1, u "java/lang/Object"), (0, u "<init>"), (0, u "()V"), (0, .class_ 8), (0, u "leafrun/log/FrameHead"), (6, .integer 2147483648), (27, u "isForced"), (0, u "(J)Z"), (7, u "FORCED_BYTES"), (0, u "I"), (2, u "UNFORCED_BYTES"), (1, u "UNFORCED"), (20, .class_ 80), (0, u "leafrun/log/FrameHead$Window")] 2

def k2m0 : Method := { name := "<init>", desc := "()V", sig := { parameters := [], returnType := none }, accessFlags := 2, code := none }
def k2c1 : Code := { maxStack := 3, maxLocals := 2, code := prog_28_method_6_code, exceptionTable := #[], attributes := #[] }
def k2m1 : Method := { name := "isForced", desc := "(J)Z", sig := { parameters := [.long], returnType := some .boolean }, accessFlags := 8, code := some k2c1 }
/-- leafrun/log/FrameHead -/
def k2 : Class := { plain "leafrun/log/FrameHead" (some 0) with
  accessFlags := 48
  interfaces := #[]
  cf := some (fileOf pool2 7 #[.nestMembers #[79]] #[{ accessFlags := 2, nameIndex := 5, descriptorIndex := 6, attributes := #[] }, { accessFlags := 8, nameIndex := 43, descriptorIndex := 44, attributes := #[] }] 48 2 #[] #[{ accessFlags := 24, nameIndex := 52, descriptorIndex := 53, attributes := #[] }, { accessFlags := 24, nameIndex := 56, descriptorIndex := 53, attributes := #[] }, { accessFlags := 26, nameIndex := 58, descriptorIndex := 53, attributes := #[] }])
  fields := #[{ name := "FORCED_BYTES", type := .int, accessFlags := 24, slot := 0, constantValue := 0 }, { name := "UNFORCED_BYTES", type := .int, accessFlags := 24, slot := 1, constantValue := 0 }, { name := "UNFORCED", type := .int, accessFlags := 26, slot := 2, constantValue := 0 }]
  methods := #[k2m0, k2m1]
  instanceTypes := #[]
  staticTypes := #[.int, .int, .int]
  resolved := Array.replicate 83 none
  statics := none }

def pool3 : Array CpInfo := pool [(1, u "java/lang/Cloneable"), (0, .class_ 1), (0, u "java/lang/Object"), (0, .class_ 3)] 3

/-- java/lang/Cloneable -/
def k3 : Class := { plain "java/lang/Cloneable" (some 0) with
  accessFlags := 1537
  interfaces := #[]
  cf := some (fileOf pool3 2 #[] #[] 1537 4 #[] #[])
  fields := #[]
  methods := #[]
  instanceTypes := #[]
  staticTypes := #[]
  resolved := Array.replicate 8 none
  statics := none }

def pool4 : Array CpInfo := pool [(1, u "java/io/Serializable"), (0, .class_ 1), (0, u "java/lang/Object"), (0, .class_ 3)] 3

/-- java/io/Serializable -/
def k4 : Class := { plain "java/io/Serializable" (some 0) with
  accessFlags := 1537
  interfaces := #[]
  cf := some (fileOf pool4 2 #[] #[] 1537 4 #[] #[])
  fields := #[]
  methods := #[]
  instanceTypes := #[]
  staticTypes := #[]
  resolved := Array.replicate 8 none
  statics := none }

/-- the primitive byte -/
def k5 : Class := { plain "byte" none with kind := .primitive 'B', accessFlags := 0x411 }
/-- [B -/
def k6 : Class := { plain "[B" (some 0) with kind := .array 5 .byte, interfaces := #[3, 4], accessFlags := 1041 }

/-- the primitive int -/
def k7 : Class := { plain "int" none with kind := .primitive 'I', accessFlags := 0x411 }
/-- [I -/
def k8 : Class := { plain "[I" (some 0) with kind := .array 7 .int, interfaces := #[3, 4], accessFlags := 1041 }

def heap : Heap := #[]
def classes : Array Class := #[k0, k1, k2, k3, k4, k5, k6, k7, k8]
def interned : List (Array UInt16 × Addr) := []
def slotsUsed : Nat := 0
def theMethod : MethodId := ⟨1, 1⟩
def args0 : Array Value := #[.long 5, .int 3, .int 7, .int 1]
def aboutOver (below : List Frame) : State where
  vm := { classes := classes, interned := interned.toArray }
  heap := heap
  slotsUsed := slotsUsed
  threads := #[{ frames := .invoking theMethod args0 :: below }]
def below0 : List Frame := [.native { method := ⟨0, 0⟩, args := #[] }]
def about1 : State := aboutOver below0
def p0 : Program := .bare "" "" ""
def e0 : Env := launch0.env 0 0 0
theorem w_frames : about1.frames = Frame.invoking theMethod args0 :: below0 := rfl
set_option maxRecDepth 65536 in
theorem w_args : argsFit about1.vm theMethod args0 = true := by decide +kernel
set_option maxRecDepth 65536 in
theorem w_heap : heapFits about1 = true := by decide +kernel
set_option maxRecDepth 65536 in
theorem w_runnable : about1.curStatus? = some .runnable := by decide +kernel
set_option maxRecDepth 65536 in
theorem w_alone : about1.alone = true := by decide +kernel
set_option maxRecDepth 65536 in
theorem w_named : about1.methodNamed? x = some theMethod := by decide +kernel
set_option maxRecDepth 65536 in
theorem w_hears : about1.hears theMethod below0 = true := by decide +kernel
set_option maxRecDepth 65536 in
theorem w_ripe : about1.ripe theMethod args0 below0 = true := by decide +kernel
theorem w_running : about1.status = .running := rfl
set_option maxRecDepth 65536 in
theorem w_room : about1.hasRoom e0.platform room_1 = true :=
  launch0.hasRoom_least _ room_1 (by decide +kernel) (by decide +kernel) (by decide +kernel) (by decide +kernel) (by decide +kernel) (by decide +kernel)
theorem allAtoms_all (ts : List Jvm.Cond) (a : Array Jvm.Value) (st : Jvm.State) : (allAtoms ts).before a st = ts.all (fun c => c.before a st) := by
  induction ts with
  | nil => rfl
  | cons c t ih =>
    show (Jvm.Cond.and c (allAtoms t)).before a st = _
    rw [Jvm.Cond.before_and, ih, List.all_cons]
def words1 : List Jvm.Cond := Jvm.Cond.code x code maxLocals ret :: tables_1
/-- a 'code' word, met by the world's own term for the bytes: nothing is compared byte by byte -/
theorem code_word {y : MethodName} {bytes : ByteArray} {mx : Nat} {rt : Option FieldType} {a : Array Value} {s : State} {m : MethodId} {meth : Method} {c : Code} (h1 : s.methodNamed? y = some m) (h2 : s.vm.method? m = some meth) (h3 : meth.code = some c) (h4 : c.code = bytes)
    (h5 : (c.maxLocals == mx && c.exceptionTable.isEmpty && decide (c.maxStack ≤ mostOperands) && decide (meth.sig.returnType = rt) && !meth.locks && decide (parseMethodDescriptor y.desc = some meth.sig)) = true) : (Jvm.Cond.code y bytes mx rt).before a s = true := by
  simp only [Bool.and_eq_true, beq_iff_eq, Bool.not_eq_true', decide_eq_true_eq] at h5
  obtain ⟨⟨⟨⟨⟨g1, g2⟩, g3⟩, g4⟩, g5⟩, g6⟩ := h5
  simp [Cond.before, Cond.holds, Cond.value, h1, h2, h3, h4, g1, g2, g3, g4, g5, g6]
def isCode : Jvm.Cond → Bool
  | .code _ _ _ _ => true
  | _ => false
theorem all_split {L : List Jvm.Cond} {P : Jvm.Cond → Bool} (h1 : L.all (fun c => isCode c || P c) = true) (h2 : ∀ c ∈ L.filter isCode, P c = true) : L.all P = true := by
  refine List.all_eq_true.mpr fun c hc => ?_
  have h := List.all_eq_true.mp h1 c hc
  rcases Bool.eq_false_or_eq_true (isCode c) with hi | hi
  · exact h2 c (List.mem_filter.mpr ⟨hc, hi⟩)
  · simpa [hi] using h
set_option maxRecDepth 65536 in
theorem w_c0 : (Jvm.Cond.code x code maxLocals ret).before args0 about1 = true := code_word (m := ⟨1, 1⟩) (meth := k1m1) (c := k1c1) (by decide +kernel) rfl rfl rfl (by decide +kernel)
set_option maxRecDepth 65536 in
theorem w_c1 : (Jvm.Cond.code ({ cls := "leafrun/log/FrameHead", name := "isForced", desc := "(J)Z" } : Jvm.MethodName) prog_28_method_6_code (2 : Nat) (Option.some Jvm.ClassFile.FieldType.boolean)).before args0 about1 = true := code_word (m := ⟨2, 1⟩) (meth := k2m1) (c := k2c1) (by decide +kernel) rfl rfl rfl (by decide +kernel)
def codes1 : List Jvm.Cond := [Jvm.Cond.code x code maxLocals ret, Jvm.Cond.code ({ cls := "leafrun/log/FrameHead", name := "isForced", desc := "(J)Z" } : Jvm.MethodName) prog_28_method_6_code (2 : Nat) (Option.some Jvm.ClassFile.FieldType.boolean)]
set_option maxRecDepth 65536 in
theorem codes_eq : words1.filter isCode = codes1 := rfl
theorem w_codes : ∀ c ∈ words1.filter isCode, c.before args0 about1 = true := by
  rw [codes_eq]
  intro c hc
  simp only [codes1, List.mem_cons, List.not_mem_nil, or_false] at hc
  rcases hc with rfl | rfl
  · exact w_c0
  · exact w_c1
set_option maxRecDepth 65536 in
theorem w_t1 : words1.all (fun c => isCode c || c.before args0 about1) = true := by decide +kernel
theorem w_tables : (allAtoms (Jvm.Cond.code x code maxLocals ret :: tables_1)).before args0 about1 = true := by
  rw [allAtoms_all]
  show words1.all (fun c => c.before args0 about1) = true
  refine all_split ?_ w_codes
  rw [w_t1]
set_option maxRecDepth 65536 in
theorem w_case : (Jvm.Cond.and given_1 narrow_1).before args0 about1 = true := by decide +kernel
theorem w_applies : (headSpec (Jvm.Cond.code x code maxLocals ret :: tables_1) room_1).applies x e0.platform about1 = true :=
  (Spec.applies_iff w_frames).mpr ⟨w_running, w_runnable, w_alone, w_named, w_hears, w_ripe, w_room, w_tables⟩
theorem atStart : AtStart classFile x code maxLocals ret World_1 tables_1 room_1 Calls_1 rest_1 Pre_1 launch0 p0 e0 about1 theMethod args0 below0 :=
  ⟨lists_1, trivial, launch0.admits_env _ _ _, launch0.least_env, fairChoices_fair.cas, fairChoices_fair.clock, w_frames, w_args, w_heap, w_applies, trivial, trivial, w_case⟩
end start1
theorem witness_1 : WitnessClaimed_1 := ⟨start1.p0, start1.e0, start1.about1, start1.theMethod, start1.args0, start1.below0, start1.atStart⟩
end Jvm.Pilot.@@N@@
