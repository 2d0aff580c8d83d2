import JvmDerived
import JvmDerived.Pilot.@@N@@Statement
import JvmDerived.Pilot.@@N@@Code
set_option linter.unusedVariables false
set_option linter.unusedSimpArgs false
namespace Jvm.Pilot.@@N@@
open Jvm Jvm.ClassFile Sem Op Lib Jvm.Free Jvm.Stand Jvm.LawKit Jvm.RoadKit Bundle Jvm.Pilot.@@N@@.Jvm.D
section OwnKit
variable {p : Program} {l : Launch} {e : Env} {R : Room} {s : State} {m : MethodId} {args : Array Value} {below : List Frame} {meth : Method} {c : Code} {T : State} {locs : List Loc} {cells slots : Nat} {Z : State} {h h' : Heap} {a b : Addr}
def OwnWp (p : Program) (e : Env) (below : List Frame) (s : State) (C S : Nat) (Q : Option Value → Heap → List Loc → Prop) (U : State) : Prop :=
  ∃ s₂ o, Steps p.tables e below U s₂ ∧ s₂.status = .running ∧ Ended s₂ below o ∧ ∃ v L, o = .returned v ∧ Q v s₂.heap L ∧ FrameEnd s o s₂ L C S
variable {C S : Nat} {Q : Option Value → Heap → List Loc → Prop}
theorem OwnWp.step {U U' : State} (hs : ∀ t, Steps p.tables e below U' t → Steps p.tables e below U t) (k : OwnWp p e below s C S Q U') : OwnWp p e below s C S Q U := by
  obtain ⟨s2, o, h1, r⟩ := k
  exact ⟨s2, o, hs _ h1, r⟩
theorem OwnWp.go {U U' : State} (hs : Steps p.tables e below U U') (k : OwnWp p e below s C S Q U') : OwnWp p e below s C S Q U := k.step fun _ q => hs.trans q
theorem OwnWp.cast {g g' : JFrame} (q : g = g') (k : OwnWp p e below s C S Q (T.setTop g')) : OwnWp p e below s C S Q (T.setTop g) := q ▸ k
theorem OwnWp.retI (X : Stand p l e R s m args below meth c T locs cells slots) (hx : p.tables.exec = Jvm.exec) (hlk : meth.locks = false) (hret : meth.sig.returnType = some .int) {pc : Nat} {Ls : Array Slot} {z : Int32} {rest : List Value} (hd : decode c.code pc = .ok (.ireturn, 1)) (hC : cells ≤ C) (hS : slots ≤ S) (hQ : Q (some (.int z)) T.heap locs) :
    OwnWp p e below s C S Q (T.setTop (mkF m pc Ls (.int z :: rest))) := by
  obtain ⟨fs, hr, hrun, hended, hW, hsame⟩ := X.leave (v := some (.int z)) (fun h => by rw [hret] at h; cases h) hlk
  exact ⟨_, _, retOut X hx hret rfl (Or.inl ⟨rfl, Or.inl rfl, z, rfl⟩) hd hr, hrun, hended, _, _, rfl, hQ, ⟨_, rfl⟩, hW, hsame.mono hC hS⟩
theorem OwnWp.retJ (X : Stand p l e R s m args below meth c T locs cells slots) (hx : p.tables.exec = Jvm.exec) (hlk : meth.locks = false) (hret : meth.sig.returnType = some .long) {pc : Nat} {Ls : Array Slot} {z : Int64} {rest : List Value} (hd : decode c.code pc = .ok (.lreturn, 1)) (hC : cells ≤ C) (hS : slots ≤ S) (hQ : Q (some (.long z)) T.heap locs) :
    OwnWp p e below s C S Q (T.setTop (mkF m pc Ls (.long z :: rest))) := by
  obtain ⟨fs, hr, hrun, hended, hW, hsame⟩ := X.leave (v := some (.long z)) (fun h => by rw [hret] at h; cases h) hlk
  exact ⟨_, _, retOut X hx hret rfl (Or.inr (Or.inl ⟨rfl, rfl, z, rfl⟩)) hd hr, hrun, hended, _, _, rfl, hQ, ⟨_, rfl⟩, hW, hsame.mono hC hS⟩
theorem OwnWp.retA (X : Stand p l e R s m args below meth c T locs cells slots) (hx : p.tables.exec = Jvm.exec) (hlk : meth.locks = false) {t : FieldType} (hret : meth.sig.returnType = some t) (ht : t.isReference = true) {pc : Nat} {Ls : Array Slot} {z : Addr} {rest : List Value} (hn : narrow t (.ref z) = .ref z) (hd : decode c.code pc = .ok (.areturn, 1)) (hC : cells ≤ C) (hS : slots ≤ S) (hQ : Q (some (.ref z)) T.heap locs) :
    OwnWp p e below s C S Q (T.setTop (mkF m pc Ls (.ref z :: rest))) := by
  obtain ⟨fs, hr, hrun, hended, hW, hsame⟩ := X.leave (v := some (.ref z)) (fun h => by rw [hret] at h; cases h) hlk
  exact ⟨_, _, retOut X hx hret hn (Or.inr (Or.inr (Or.inr (Or.inr ⟨rfl, ht, rfl⟩)))) hd hr, hrun, hended, _, _, rfl, hQ, ⟨_, rfl⟩, hW, hsame.mono hC hS⟩
theorem OwnWp.retZ (X : Stand p l e R s m args below meth c T locs cells slots) (hx : p.tables.exec = Jvm.exec) (hlk : meth.locks = false) (hret : meth.sig.returnType = some .boolean) {pc : Nat} {Ls : Array Slot} {z : Int32} {rest : List Value} (hd : decode c.code pc = .ok (.ireturn, 1)) (hC : cells ≤ C) (hS : slots ≤ S) (hz : z = 0 ∨ z = 1) (hQ : Q (some (.int z)) T.heap locs) :
    OwnWp p e below s C S Q (T.setTop (mkF m pc Ls (.int z :: rest))) := by
  have hn : nar .boolean z = z := by rcases hz with rfl | rfl <;> rfl
  obtain ⟨fs, hr, hrun, hended, hW, hsame⟩ := X.leave (v := some (.int (nar .boolean z))) (fun h => by rw [hret] at h; cases h) hlk
  exact ⟨_, _, retN X hx hret (Or.inl rfl) hd hr, hrun, hended, _, _, rfl, by rw [hn]; exact hQ, ⟨_, rfl⟩, hW, hsame.mono hC hS⟩
theorem OwnWp.retV (X : Stand p l e R s m args below meth c T locs cells slots) (hx : p.tables.exec = Jvm.exec) (hlk : meth.locks = false) (hret : meth.sig.returnType = none) {pc : Nat} {Ls : Array Slot} (hd : decode c.code pc = .ok (.return_, 1)) (hC : cells ≤ C) (hS : slots ≤ S) (hQ : Q none T.heap locs) :
    OwnWp p e below s C S Q (T.setTop (mkF m pc Ls [])) := by
  obtain ⟨fs, hr, hrun, hended, hW, hsame⟩ := X.leave (v := none) (fun _ => rfl) hlk
  exact ⟨_, _, X.returnOut hx hret hd hr, hrun, hended, _, _, rfl, hQ, ⟨_, rfl⟩, hW, hsame.mono hC hS⟩
theorem own_widen {cells' slots' : Nat} (X : Stand p l e R s m args below meth c T locs cells slots) (h1 : cells ≤ cells') (h2 : slots ≤ slots') : Stand p l e R s m args below meth c T locs cells' slots' := { X with same := X.same.mono h1 h2 }
theorem own_lrem {g : JFrame} {target : State} (X : Stand p l e R s m args below meth c T locs cells slots) (hx : p.tables.exec = Jvm.exec) (hg : g.method = m) {x y : Int64} {rest : List Value} (hd : decode c.code g.pc = .ok (.lrem, 1)) (hs : g.stack = .long y :: .long x :: rest) (hy : y ≠ 0)
    (hr : Steps p.tables e below (T.setTop { g with pc := g.pc + 1, stack := .long (x % y) :: rest }) target) : Steps p.tables e below (T.setTop g) target :=
  XT.lrem X.here hx hg hd hs hy (by rw [lrem_mod]; exact hr)
/-- an array: its kind, its length, what place i holds -/
def OwnA (Z : State) (h : Heap) (a : Addr) (ty : FieldType) (n : Int32) (f : Int → Value) : Prop :=
  ∃ cl : Cell, Arr Z h a cl ty ∧ (cl.slots.size : Int) = n.toInt ∧ ∀ i : Int, 0 ≤ i → i < n.toInt → cl.slots[i.toNat]? = some (f i)
def ownUpd {α : Type} (f : Int → α) (j : Int) (x : α) : Int → α := fun i => if i = j then x else f i
theorem ownUpd_same {α : Type} (f : Int → α) (j : Int) (x : α) : ownUpd f j x j = x := if_pos rfl
theorem ownUpd_ne {α : Type} (f : Int → α) (j : Int) (x : α) {i : Int} (q : i ≠ j) : ownUpd f j x i = f i := if_neg q
variable {ty : FieldType} {n : Int32} {f : Int → Value} {ws : List Addr}
theorem OwnA.lt (F : OwnA Z h a ty n f) : a < h.size := by obtain ⟨_, A, -⟩ := F; exact A.lt
theorem OwnA.ext (F : OwnA Z h a ty n f) (E : Ext h h') : OwnA Z h' a ty n f := by obtain ⟨cl, A, r⟩ := F; exact ⟨cl, A.ext E, r⟩
theorem OwnA.keep (F : OwnA Z h a ty n f) (K : Keep h h' ws) (q : a ∉ ws) : OwnA Z h' a ty n f := by obtain ⟨cl, A, r⟩ := F; exact ⟨cl, ⟨K.2.1 a cl A.1 q, A.2⟩, r⟩
theorem OwnA.other {sl : Nat} {v : Value} (F : OwnA Z h b ty n f) (W : Wr h h' a sl v) (q : b ≠ a) : OwnA Z h' b ty n f := by obtain ⟨cl, A, r⟩ := F; exact ⟨cl, A.other W q, r⟩
theorem OwnA.len (F : OwnA Z h a ty n f) : 0 ≤ n.toInt := by obtain ⟨cl, _, r, _⟩ := F; omega
theorem OwnA.congr {f' : Int → Value} (F : OwnA Z h a ty n f) (q : ∀ i, 0 ≤ i → i < n.toInt → f i = f' i) : OwnA Z h a ty n f' := by obtain ⟨cl, A, r1, r2⟩ := F; exact ⟨cl, A, r1, fun i h1 h2 => by rw [← q i h1 h2]; exact r2 i h1 h2⟩
theorem own_clamp (j : Int32) : j.toNatClampNeg = j.toInt.toNat := rfl
theorem own_in {cl : Cell} {j : Int32} (r : (cl.slots.size : Int) = n.toInt) (h1 : 0 ≤ j.toInt) (h2 : j.toInt < n.toInt) : ¬ (j < 0 ∨ cl.slots.size ≤ j.toNatClampNeg) := by
  rw [own_clamp, Int32.lt_iff_toInt_lt, Int32.toInt_zero]; omega
theorem OwnA.new {k : ClassId} {z : Int32} (A : Arr Z h a (newA k ty z) ty) (q : 0 ≤ z.toInt) : OwnA Z h a ty z (fun _ => defaultValue ty) := by
  refine ⟨_, A, ?_, fun i h1 h2 => ?_⟩
  · rw [sz_new, own_clamp]; omega
  · have hi : i.toNat < z.toNatClampNeg := by rw [own_clamp]; omega
    show (Array.replicate z.toNatClampNeg (defaultValue ty))[i.toNat]? = _
    rw [Array.getElem?_replicate, if_pos hi]
theorem OwnA.set {j : Int32} {v : Value} (F : OwnA Z h a ty n f) (h1 : 0 ≤ j.toInt) (h2 : j.toInt < n.toInt) (W : Wr h h' a j.toNatClampNeg v) : OwnA Z h' a ty n (ownUpd f j.toInt v) := by
  obtain ⟨cl, A, r1, r2⟩ := F
  refine ⟨_, A.same W, by rw [sz_set]; exact r1, fun i g1 g2 => ?_⟩
  by_cases q : i = j.toInt
  · subst q
    rw [ownUpd_same]
    have hi : j.toNatClampNeg < cl.slots.size := by rw [own_clamp]; omega
    exact Array.getElem?_setIfInBounds_self_of_lt hi
  · rw [ownUpd_ne _ _ _ q, ← r2 i g1 g2, own_clamp]
    exact Array.getElem?_setIfInBounds_ne (by omega)
variable {g : JFrame} {target : State} {rest : List Value} {j : Int32}
theorem OwnA.alen (X : Stand p l e R s m args below meth c T locs cells slots) (hx : p.tables.exec = Jvm.exec) (hZ : Z.Warmed39 s.vm) (eT : T.heap = h) (F : OwnA Z h a ty n f) (hg : g.method = m) (hs : g.stack = .ref a :: rest) (hd : decode c.code g.pc = .ok (.arraylength, 1))
    (hr : Steps p.tables e below (T.setTop { g with pc := g.pc + 1, stack := .int n :: rest }) target) : Steps p.tables e below (T.setTop g) target := by
  obtain ⟨cl, A, r1, r2⟩ := F
  subst eT
  refine X.arraylength hx A.1 (State.isArrayOf_alike hZ.alike A.2.1) hg hs hd target ?_
  have q : cl.slots.size.toInt32 = n := by
    have q0 : cl.slots.size = n.toNatClampNeg := by rw [own_clamp]; omega
    exact len_of q0 (by rw [Int32.lt_iff_toInt_lt, Int32.toInt_zero]; omega)
  rw [q]; exact hr
theorem OwnA.ldI (X : Stand p l e R s m args below meth c T locs cells slots) (hx : p.tables.exec = Jvm.exec) (hZ : Z.Warmed39 s.vm) (eT : T.heap = h) (F : OwnA Z h a .int n f) (h1 : 0 ≤ j.toInt) (h2 : j.toInt < n.toInt) (hg : g.method = m) (hs : g.stack = .int j :: .ref a :: rest) (hd : decode c.code g.pc = .ok (.iaload, 1))
    (hr : Steps p.tables e below (T.setTop { g with pc := g.pc + 1, stack := f j.toInt :: rest }) target) : Steps p.tables e below (T.setTop g) target := by
  obtain ⟨cl, A, r1, r2⟩ := F
  subst eT
  exact X.iaload hx A.1 (State.isArrayOf_alike hZ.alike A.2.1) A.2.2 (own_in r1 h1 h2) (r2 _ h1 h2) hg hs hd target hr
theorem OwnA.ldJ (X : Stand p l e R s m args below meth c T locs cells slots) (hx : p.tables.exec = Jvm.exec) (hZ : Z.Warmed39 s.vm) (eT : T.heap = h) (F : OwnA Z h a .long n f) (h1 : 0 ≤ j.toInt) (h2 : j.toInt < n.toInt) (hg : g.method = m) (hs : g.stack = .int j :: .ref a :: rest) (hd : decode c.code g.pc = .ok (.laload, 1))
    (hr : Steps p.tables e below (T.setTop { g with pc := g.pc + 1, stack := f j.toInt :: rest }) target) : Steps p.tables e below (T.setTop g) target := by
  obtain ⟨cl, A, r1, r2⟩ := F
  subst eT
  exact X.laload hx A.1 (State.isArrayOf_alike hZ.alike A.2.1) A.2.2 (own_in r1 h1 h2) (r2 _ h1 h2) hg hs hd target hr
theorem OwnA.ldC (X : Stand p l e R s m args below meth c T locs cells slots) (hx : p.tables.exec = Jvm.exec) (hZ : Z.Warmed39 s.vm) (eT : T.heap = h) (F : OwnA Z h a .char n f) (h1 : 0 ≤ j.toInt) (h2 : j.toInt < n.toInt) (hg : g.method = m) (hs : g.stack = .int j :: .ref a :: rest) (hd : decode c.code g.pc = .ok (.caload, 1))
    (hr : Steps p.tables e below (T.setTop { g with pc := g.pc + 1, stack := f j.toInt :: rest }) target) : Steps p.tables e below (T.setTop g) target := by
  obtain ⟨cl, A, r1, r2⟩ := F
  subst eT
  exact X.caload hx A.1 (State.isArrayOf_alike hZ.alike A.2.1) A.2.2 (own_in r1 h1 h2) (r2 _ h1 h2) hg hs hd target hr
theorem OwnA.ldB (X : Stand p l e R s m args below meth c T locs cells slots) (hx : p.tables.exec = Jvm.exec) (hZ : Z.Warmed39 s.vm) (eT : T.heap = h) (F : OwnA Z h a .byte n f) (h1 : 0 ≤ j.toInt) (h2 : j.toInt < n.toInt) (hg : g.method = m) (hs : g.stack = .int j :: .ref a :: rest) (hd : decode c.code g.pc = .ok (.baload, 1))
    (hr : Steps p.tables e below (T.setTop { g with pc := g.pc + 1, stack := f j.toInt :: rest }) target) : Steps p.tables e below (T.setTop g) target := by
  obtain ⟨cl, A, r1, r2⟩ := F
  subst eT
  exact X.baloadBytes hx A.1 (State.isArrayOf_alike hZ.alike A.2.1) A.2.2 (own_in r1 h1 h2) (r2 _ h1 h2) hg hs hd target hr
theorem OwnA.ldZ (X : Stand p l e R s m args below meth c T locs cells slots) (hx : p.tables.exec = Jvm.exec) (hZ : Z.Warmed39 s.vm) (eT : T.heap = h) (F : OwnA Z h a .boolean n f) (h1 : 0 ≤ j.toInt) (h2 : j.toInt < n.toInt) (hg : g.method = m) (hs : g.stack = .int j :: .ref a :: rest) (hd : decode c.code g.pc = .ok (.baload, 1))
    (hr : Steps p.tables e below (T.setTop { g with pc := g.pc + 1, stack := f j.toInt :: rest }) target) : Steps p.tables e below (T.setTop g) target := by
  obtain ⟨cl, A, r1, r2⟩ := F
  subst eT
  exact X.baloadBooleans hx A.1 (State.isArrayOf_alike hZ.alike A.2.1) A.2.2 (own_in r1 h1 h2) (r2 _ h1 h2) hg hs hd target hr
theorem own_frs {k : Nat} {sl : Nat} (N : Fr k locs) (q : k ≤ a) : Fr k (locs ++ [⟨a, sl⟩]) := N.app fun y hy => by cases List.mem_singleton.mp hy; exact q
theorem OwnA.stI {n0 : Nat} {x : Int32} (X : Stand p l e R s m args below meth c T locs cells slots) (hx : p.tables.exec = Jvm.exec) (hZ : Z.Warmed39 s.vm) (eT : T.heap = h) (N : Fr n0 locs) (q : n0 ≤ a) (F : OwnA Z h a .int n f) (h1 : 0 ≤ j.toInt) (h2 : j.toInt < n.toInt) (hg : g.method = m) (hs : g.stack = .int x :: .int j :: .ref a :: rest) (hd : decode c.code g.pc = .ok (.iastore, 1)) :
    ∃ T' h' L', Stand p l e R s m args below meth c T' L' cells slots ∧ T'.heap = h' ∧ Fr n0 L' ∧ Keep h h' [a] ∧ OwnA Z h' a .int n (ownUpd f j.toInt (.int x)) ∧ ∀ target, Steps p.tables e below (T'.setTop { g with pc := g.pc + 1, stack := rest }) target → Steps p.tables e below (T.setTop g) target := by
  obtain ⟨cl, A, r1, r2⟩ := id F
  obtain ⟨T', h', X', e', W, st⟩ := RoadKit.stI X hx hZ eT A (own_in r1 h1 h2) hg hs hd
  exact ⟨T', h', _, X', e', own_frs N q, Keep.of_wr W, F.set h1 h2 W, st⟩
theorem OwnA.stJ {n0 : Nat} {x : Int64} (X : Stand p l e R s m args below meth c T locs cells slots) (hx : p.tables.exec = Jvm.exec) (hZ : Z.Warmed39 s.vm) (eT : T.heap = h) (N : Fr n0 locs) (q : n0 ≤ a) (F : OwnA Z h a .long n f) (h1 : 0 ≤ j.toInt) (h2 : j.toInt < n.toInt) (hg : g.method = m) (hs : g.stack = .long x :: .int j :: .ref a :: rest) (hd : decode c.code g.pc = .ok (.lastore, 1)) :
    ∃ T' h' L', Stand p l e R s m args below meth c T' L' cells slots ∧ T'.heap = h' ∧ Fr n0 L' ∧ Keep h h' [a] ∧ OwnA Z h' a .long n (ownUpd f j.toInt (.long x)) ∧ ∀ target, Steps p.tables e below (T'.setTop { g with pc := g.pc + 1, stack := rest }) target → Steps p.tables e below (T.setTop g) target := by
  obtain ⟨cl, A, r1, r2⟩ := id F
  obtain ⟨T', h', X', e', W, st⟩ := RoadKit.stJ X hx hZ eT A (own_in r1 h1 h2) hg hs hd
  exact ⟨T', h', _, X', e', own_frs N q, Keep.of_wr W, F.set h1 h2 W, st⟩
theorem OwnA.stC {n0 : Nat} {x : Int32} (X : Stand p l e R s m args below meth c T locs cells slots) (hx : p.tables.exec = Jvm.exec) (hZ : Z.Warmed39 s.vm) (eT : T.heap = h) (N : Fr n0 locs) (q : n0 ≤ a) (F : OwnA Z h a .char n f) (h1 : 0 ≤ j.toInt) (h2 : j.toInt < n.toInt) (hg : g.method = m) (hs : g.stack = .int x :: .int j :: .ref a :: rest) (hd : decode c.code g.pc = .ok (.castore, 1)) :
    ∃ T' h' L', Stand p l e R s m args below meth c T' L' cells slots ∧ T'.heap = h' ∧ Fr n0 L' ∧ Keep h h' [a] ∧ OwnA Z h' a .char n (ownUpd f j.toInt (.int (nar .char x))) ∧ ∀ target, Steps p.tables e below (T'.setTop { g with pc := g.pc + 1, stack := rest }) target → Steps p.tables e below (T.setTop g) target := by
  obtain ⟨cl, A, r1, r2⟩ := id F
  obtain ⟨T', h', X', e', W, st⟩ := RoadKit.stC X hx hZ eT A (own_in r1 h1 h2) hg hs hd
  exact ⟨T', h', _, X', e', own_frs N q, Keep.of_wr W, F.set h1 h2 W, st⟩
theorem OwnA.stB {n0 : Nat} {x : Int32} (X : Stand p l e R s m args below meth c T locs cells slots) (hx : p.tables.exec = Jvm.exec) (hZ : Z.Warmed39 s.vm) (eT : T.heap = h) (N : Fr n0 locs) (q : n0 ≤ a) (F : OwnA Z h a .byte n f) (h1 : 0 ≤ j.toInt) (h2 : j.toInt < n.toInt) (hg : g.method = m) (hs : g.stack = .int x :: .int j :: .ref a :: rest) (hd : decode c.code g.pc = .ok (.bastore, 1)) :
    ∃ T' h' L', Stand p l e R s m args below meth c T' L' cells slots ∧ T'.heap = h' ∧ Fr n0 L' ∧ Keep h h' [a] ∧ OwnA Z h' a .byte n (ownUpd f j.toInt (.int (nar .byte x))) ∧ ∀ target, Steps p.tables e below (T'.setTop { g with pc := g.pc + 1, stack := rest }) target → Steps p.tables e below (T.setTop g) target := by
  obtain ⟨cl, A, r1, r2⟩ := id F
  obtain ⟨T', h', X', e', W, st⟩ := RoadKit.stB X hx hZ eT A (own_in r1 h1 h2) hg hs hd
  exact ⟨T', h', _, X', e', own_frs N q, Keep.of_wr W, F.set h1 h2 W, st⟩
theorem OwnA.stZ {n0 : Nat} {x : Int32} (X : Stand p l e R s m args below meth c T locs cells slots) (hx : p.tables.exec = Jvm.exec) (hZ : Z.Warmed39 s.vm) (eT : T.heap = h) (N : Fr n0 locs) (q : n0 ≤ a) (F : OwnA Z h a .boolean n f) (h1 : 0 ≤ j.toInt) (h2 : j.toInt < n.toInt) (hg : g.method = m) (hs : g.stack = .int x :: .int j :: .ref a :: rest) (hd : decode c.code g.pc = .ok (.bastore, 1)) :
    ∃ T' h' L', Stand p l e R s m args below meth c T' L' cells slots ∧ T'.heap = h' ∧ Fr n0 L' ∧ Keep h h' [a] ∧ OwnA Z h' a .boolean n (ownUpd f j.toInt (.int (nar .boolean x))) ∧ ∀ target, Steps p.tables e below (T'.setTop { g with pc := g.pc + 1, stack := rest }) target → Steps p.tables e below (T.setTop g) target := by
  obtain ⟨cl, A, r1, r2⟩ := id F
  obtain ⟨T', h', X', e', W, st⟩ := RoadKit.stZ X hx hZ eT A (own_in r1 h1 h2) hg hs hd
  exact ⟨T', h', _, X', e', own_frs N q, Keep.of_wr W, F.set h1 h2 W, st⟩
end OwnKit
theorem own_ofi {n : Int} (h1 : -2147483648 ≤ n) (h2 : n < 2147483648) : (Int32.ofInt n).toInt = n := by
  rw [Int32.toInt_ofInt, show Int32.size = 4294967296 from rfl, Int.bmod_eq_of_le (by omega) (by omega)]
theorem own_ofj {n : Int} (h1 : -9223372036854775808 ≤ n) (h2 : n < 9223372036854775808) : (Int64.ofInt n).toInt = n := by
  rw [Int64.toInt_ofInt, show Int64.size = 18446744073709551616 from rfl, Int.bmod_eq_of_le (by omega) (by omega)]
/-- an int between 0 and n is one of finitely many -/
theorem own_fin {x : Int32} {n : Nat} (h1 : 0 ≤ x.toInt) (h2 : x.toInt < n) : ∃ k : Fin n, x = Int32.ofInt (k.1 : Int) := by
  have h3 := x.toInt_lt
  refine ⟨⟨x.toInt.toNat, by omega⟩, Int32.toInt_inj.mp ?_⟩
  show _ = (Int32.ofInt ((x.toInt.toNat : Nat) : Int)).toInt
  rw [own_ofi (by omega) (by omega)]; omega
theorem d2_0 : decode jdk_30_method_1_code 0 = .ok (.aload_n 0, 1) := by decide +kernel
theorem d2_1 : decode jdk_30_method_1_code 1 = .ok (.invokespecial 1, 3) := by decide +kernel
theorem d2_4 : decode jdk_30_method_1_code 4 = .ok (.return_, 1) := by decide +kernel
theorem pn_2 : plainFor (⟨"java/lang/Record", "<init>", "()V"⟩ : MethodName) = true := plainFor_of_name (by first | (simp [plainName, overriddenIn]; done) | decide +kernel)
theorem pd_2 : parseMethodDescriptor "()V" = some ⟨[], none⟩ := by decide +kernel
theorem ef_2 (m : MethodId) (x0 : Addr) : entryFrame m #[(.ref x0)] 1 = mkF m 0 #[.val (.ref x0)] [] := by first | (simp [entryFrame, mkF, argsToLocals, Value.category, maxLocals]; done) | rfl
def Q2 (Z : State) (a1 : Addr)  (h0 : Heap) (n0 : Nat) (v : Option Value) (h : Heap) (L : List Loc) : Prop := v = none ∧ Fr n0 L ∧ h = h0
set_option maxRecDepth 65536 in
set_option maxHeartbeats 40000000 in
theorem rm2 (l : Launch) (Z : State) (a0 : Array Value) (hw : ∀ d ∈ tables_1, d.before a0 Z = true) (ws : List Jvm.Cond) (a1 : Addr)  (h0 : Heap) (n0 : Nat) (Z0 : n0 ≤ h0.size)  :
    MetFree l (⟨"java/lang/Record", "<init>", "()V"⟩ : MethodName) (head1 (Jvm.Cond.code (⟨"java/lang/Record", "<init>", "()V"⟩ : MethodName) jdk_30_method_1_code 1 none :: ws) ({ frames := 1, cells := 0, slots := 0, locals := 12 } : Room)) (fun a U => a = #[(.ref a1)] ∧ Z.Warmed39 U.vm ∧ U.heap = h0) (fun _ _ _ _ _ => True) (fun _ U o U' => ∃ v L, o = .returned v ∧ Q2 Z a1  h0 n0 v U'.heap L ∧ FrameEnd U o U' L ({ frames := 1, cells := 0, slots := 0, locals := 12 } : Room).cells ({ frames := 1, cells := 0, slots := 0, locals := 12 } : Room).slots) := by
  refine MetFree.of_bodySF pn_2 hisR ?_
  intro p e s m args below meth c s₁ Bd hml0 hP hK
  obtain ⟨rfl, hZ, hh⟩ := hP
  have hx := Bd.exec
  have hby := Bd.bytes
  have hlk := BodyLoose.notSynchronized Bd
  have hml : c.maxLocals = 1 := hml0
  have hown : s.vm.findClass "java/lang/Record" = some m.cls := findClass_of_methodNamed Bd.named
  have hnm := (name_of_methodNamed Bd.named Bd.method).1
  have X0 : Stand p l e ({ frames := 1, cells := 0, slots := 0, locals := 12 } : Room) s m #[(.ref a1)] below meth c s₁ [] 0 0 := Stand.of_body Bd
  have e0 : s₁.heap = h0 := by rw [← hh, Bd.state]; rfl
  have N0 := Fr.nil n0
  show OwnWp p e below s ({ frames := 1, cells := 0, slots := 0, locals := 12 } : Room).cells ({ frames := 1, cells := 0, slots := 0, locals := 12 } : Room).slots (Q2 Z a1  h0 n0) (s₁.setTop (entryFrame m #[(.ref a1)] 1))
  refine OwnWp.cast (ef_2 m a1) ?_
  show OwnWp p e below s _ _ _ (s₁.setTop (mkF m 0 #[.val (.ref a1)] []))
  refine OwnWp.step (U' := s₁.setTop (mkF m 1 #[.val (.ref a1)] [(.ref a1)])) (fun t k => ?_) ?_
  · show Steps p.tables e below (s₁.setTop (mkF m 0 #[.val (.ref a1)] [])) _
    refine XS.aloadN X0.here hx rfl (hb hby d2_0) rfl rfl ?_
    show Steps p.tables e below (s₁.setTop (mkF m 1 #[.val (.ref a1)] [(.ref a1)])) _
    exact k
  obtain ⟨T1, X1, e1, st1⟩ := initO X0 hx hZ hown (hw _ (List.mem_of_getElem? (i := 12) rfl)) (hw _ (List.mem_of_getElem? (i := 13) rfl)) (hw _ (List.mem_of_getElem? (i := 14) rfl)) e0 (g := (mkF m 1 #[.val (.ref a1)] [(.ref a1)])) rfl (by rw [hml]; rfl) rfl (hb hby d2_1) (by decide) (W := 0) (by show 2 * 0 + _ ≤ _; exact Nat.le_of_eq rfl) (by decide)
  refine OwnWp.step st1 ?_
  show OwnWp p e below s _ _ _ (T1.setTop (mkF m 4 #[.val (.ref a1)] []))
  refine OwnWp.retV X1 hx hlk Bd.returns (hb hby d2_4) (by decide) (by decide) ?_
  exact ⟨rfl, N0, e1⟩
theorem d1_0 : decode prog_118_method_1_code 0 = .ok (.aload_n 0, 1) := by decide +kernel
theorem d1_1 : decode prog_118_method_1_code 1 = .ok (.invokespecial 1, 3) := by decide +kernel
theorem d1_4 : decode prog_118_method_1_code 4 = .ok (.aload_n 0, 1) := by decide +kernel
theorem d1_5 : decode prog_118_method_1_code 5 = .ok (.iload_n 1, 1) := by decide +kernel
theorem d1_6 : decode prog_118_method_1_code 6 = .ok (.putfield 7, 3) := by decide +kernel
theorem d1_9 : decode prog_118_method_1_code 9 = .ok (.aload_n 0, 1) := by decide +kernel
theorem d1_10 : decode prog_118_method_1_code 10 = .ok (.iload_n 2, 1) := by decide +kernel
theorem d1_11 : decode prog_118_method_1_code 11 = .ok (.putfield 13, 3) := by decide +kernel
theorem d1_14 : decode prog_118_method_1_code 14 = .ok (.aload_n 0, 1) := by decide +kernel
theorem d1_15 : decode prog_118_method_1_code 15 = .ok (.iload_n 3, 1) := by decide +kernel
theorem d1_16 : decode prog_118_method_1_code 16 = .ok (.putfield 16, 3) := by decide +kernel
theorem d1_19 : decode prog_118_method_1_code 19 = .ok (.return_, 1) := by decide +kernel
theorem pn_1 : plainFor (⟨"tiercast/sim/Joining$Faults", "<init>", "(III)V"⟩ : MethodName) = true := plainFor_of_name (by first | (simp [plainName, overriddenIn]; done) | decide +kernel)
theorem pd_1 : parseMethodDescriptor "(III)V" = some ⟨[.int, .int, .int], none⟩ := by decide +kernel
theorem ef_1 (m : MethodId) (x0 : Addr) (x1 : Int32) (x2 : Int32) (x3 : Int32) : entryFrame m #[(.ref x0), (.int x1), (.int x2), (.int x3)] 4 = mkF m 0 #[.val (.ref x0), .val (.int x1), .val (.int x2), .val (.int x3)] [] := by first | (simp [entryFrame, mkF, argsToLocals, Value.category, maxLocals]; done) | rfl
def Q1 (Z : State) (a1 : Addr) (p1 : Int32) (p2 : Int32) (p3 : Int32)  (h0 : Heap) (n0 : Nat) (v : Option Value) (h : Heap) (L : List Loc) : Prop := v = none ∧ Fr n0 L ∧ Keep h0 h [a1] ∧ Fld Z h a1 "tiercast/sim/Joining$Faults" "tablesDiffering" "I" (.int p1) ∧ Fld Z h a1 "tiercast/sim/Joining$Faults" "successorsWrong" "I" (.int p2) ∧ Fld Z h a1 "tiercast/sim/Joining$Faults" "predecessorsWrong" "I" (.int p3)
set_option maxRecDepth 65536 in
set_option maxHeartbeats 40000000 in
theorem rm1 (l : Launch) (Z : State) (a0 : Array Value) (hw : ∀ d ∈ tables_1, d.before a0 Z = true) (ws : List Jvm.Cond) (a1 : Addr) (p1 : Int32) (p2 : Int32) (p3 : Int32)  (h0 : Heap) (n0 : Nat) (Z0 : n0 ≤ h0.size) (g0 : n0 ≤ a1) (E0 : Exa Z h0 a1 "tiercast/sim/Joining$Faults") (Fa : Fld Z h0 a1 "tiercast/sim/Joining$Faults" "tablesDiffering" "I" (.int (0 : Int32))) (Fb : Fld Z h0 a1 "tiercast/sim/Joining$Faults" "successorsWrong" "I" (.int (0 : Int32))) (Fc : Fld Z h0 a1 "tiercast/sim/Joining$Faults" "predecessorsWrong" "I" (.int (0 : Int32))) :
    MetFree l (⟨"tiercast/sim/Joining$Faults", "<init>", "(III)V"⟩ : MethodName) (head1 (Jvm.Cond.code (⟨"tiercast/sim/Joining$Faults", "<init>", "(III)V"⟩ : MethodName) prog_118_method_1_code 4 none :: ws) ({ frames := 2, cells := 0, slots := 0, locals := 24 } : Room)) (fun a U => a = #[(.ref a1), (.int p1), (.int p2), (.int p3)] ∧ Z.Warmed39 U.vm ∧ U.heap = h0) (fun _ _ _ _ _ => True) (fun _ U o U' => ∃ v L, o = .returned v ∧ Q1 Z a1 p1 p2 p3  h0 n0 v U'.heap L ∧ FrameEnd U o U' L ({ frames := 2, cells := 0, slots := 0, locals := 24 } : Room).cells ({ frames := 2, cells := 0, slots := 0, locals := 24 } : Room).slots) := by
  refine MetFree.of_bodySF pn_1 hisR ?_
  intro p e s m args below meth c s₁ Bd hml0 hP hK
  obtain ⟨rfl, hZ, hh⟩ := hP
  have hx := Bd.exec
  have hby := Bd.bytes
  have hlk := BodyLoose.notSynchronized Bd
  have hml : c.maxLocals = 4 := hml0
  have hown : s.vm.findClass "tiercast/sim/Joining$Faults" = some m.cls := findClass_of_methodNamed Bd.named
  have hnm := (name_of_methodNamed Bd.named Bd.method).1
  have X0 : Stand p l e ({ frames := 2, cells := 0, slots := 0, locals := 24 } : Room) s m #[(.ref a1), (.int p1), (.int p2), (.int p3)] below meth c s₁ [] 0 0 := Stand.of_body Bd
  have e0 : s₁.heap = h0 := by rw [← hh, Bd.state]; rfl
  have N0 := Fr.nil n0
  show OwnWp p e below s ({ frames := 2, cells := 0, slots := 0, locals := 24 } : Room).cells ({ frames := 2, cells := 0, slots := 0, locals := 24 } : Room).slots (Q1 Z a1 p1 p2 p3  h0 n0) (s₁.setTop (entryFrame m #[(.ref a1), (.int p1), (.int p2), (.int p3)] 4))
  refine OwnWp.cast (ef_1 m a1 p1 p2 p3) ?_
  show OwnWp p e below s _ _ _ (s₁.setTop (mkF m 0 #[.val (.ref a1), .val (.int p1), .val (.int p2), .val (.int p3)] []))
  have K0 := Keep.refl h0 [a1]
  refine OwnWp.step (U' := s₁.setTop (mkF m 1 #[.val (.ref a1), .val (.int p1), .val (.int p2), .val (.int p3)] [(.ref a1)])) (fun t k => ?_) ?_
  · show Steps p.tables e below (s₁.setTop (mkF m 0 #[.val (.ref a1), .val (.int p1), .val (.int p2), .val (.int p3)] [])) _
    refine XS.aloadN X0.here hx rfl (hb hby d1_0) rfl rfl ?_
    show Steps p.tables e below (s₁.setTop (mkF m 1 #[.val (.ref a1), .val (.int p1), .val (.int p2), .val (.int p3)] [(.ref a1)])) _
    exact k
  obtain ⟨_, _, ⟨T2, L2, k2, n2⟩, -, X2, ⟨Lc2, hQ2, l2, y2, z2⟩, st2⟩ := X0.specialBack hx (y := (⟨"java/lang/Record", "<init>", "()V"⟩ : MethodName)) rfl hown (mvT hZ (hw _ (List.mem_of_getElem? (i := 7) rfl))) (mvT hZ (hw _ (List.mem_of_getElem? (i := 8) rfl))) (mvT hZ (hw _ (List.mem_of_getElem? (i := 11) rfl))) (by decide) (backOf (W := 0) (rm2 l Z a0 hw [] a1 h0 n0 Z0) hZ (hw _ (List.mem_of_getElem? (i := 11) rfl)) (hw _ (List.mem_of_getElem? (i := 10) rfl)) (by decide) (by decide)) (g := (mkF m 1 #[.val (.ref a1), .val (.int p1), .val (.int p2), .val (.int p3)] [(.ref a1)])) rfl (by rw [hml]; rfl) (Steps.refl _) (a := a1) (argsL := []) (rest := []) (lenOf pd_2 rfl) rfl (by show 2 * 0 + _ ≤ _; exact Nat.le_of_eq rfl) (hb hby d1_1) (fun _ _ => ⟨rfl, e0, (by dsimp only [Pt.cells]; decide), (by dsimp only [Pt.slots]; decide)⟩)
  dsimp only [Pt.U, Pt.locs, Pt.cells, Pt.slots] at X2 l2 y2 z2 st2 hQ2
  subst l2 y2 z2
  obtain ⟨rfl, Nc2, hp2⟩ := hQ2
  have N2 := Fr.app N0 Nc2
  refine OwnWp.go st2 ?_
  have eh2 : T2.heap = h0 := hp2
  show OwnWp p e below s _ _ _ (T2.setTop (mkF m 4 #[.val (.ref a1), .val (.int p1), .val (.int p2), .val (.int p3)] []))
  refine OwnWp.step (U' := T2.setTop (mkF m 6 #[.val (.ref a1), .val (.int p1), .val (.int p2), .val (.int p3)] [(.int p1), (.ref a1)])) (fun t k => ?_) ?_
  · show Steps p.tables e below (T2.setTop (mkF m 4 #[.val (.ref a1), .val (.int p1), .val (.int p2), .val (.int p3)] [])) _
    refine XS.aloadN X2.here hx rfl (hb hby d1_4) rfl rfl ?_
    show Steps p.tables e below (T2.setTop (mkF m 5 #[.val (.ref a1), .val (.int p1), .val (.int p2), .val (.int p3)] [(.ref a1)])) _
    refine XS.iloadN X2.here hx rfl (hb hby d1_5) rfl ?_
    show Steps p.tables e below (T2.setTop (mkF m 6 #[.val (.ref a1), .val (.int p1), .val (.int p2), .val (.int p3)] [(.int p1), (.ref a1)])) _
    exact k
  obtain ⟨T3, h3, X3, e3, W3, st3⟩ := putF X2 hx hZ hown (host := "") (Or.inl (hw _ (List.mem_of_getElem? (i := 15) rfl))) Via.refl eh2 Fa E0 (Or.inr ⟨(hw _ (List.mem_of_getElem? (i := 16) rfl)), rfl, hnm⟩) (hw _ (List.mem_of_getElem? (i := 2) rfl)) (ty := .int) (by decide) rfl rfl (g := (mkF m 6 #[.val (.ref a1), .val (.int p1), .val (.int p2), .val (.int p3)] [(.int p1), (.ref a1)])) rfl rfl (hb hby d1_6)
  have N3 := own_frs (sl := Jvm.RoadKit.slotOf Z "tiercast/sim/Joining$Faults" "tablesDiffering" "I") N2 g0
  have Z3 : n0 ≤ h3.size := by rw [W3.size]; exact Z0
  refine OwnWp.step st3 ?_
  have f4 := Exa.wr W3 E0
  have f5 := Fld.same W3 Fa
  have f6 := Fld.other W3 Fb (Or.inr (slot_ne (C := "tiercast/sim/Joining$Faults") (Or.inr (hw _ (List.mem_of_getElem? (i := 18) rfl))) (Or.inr (hw _ (List.mem_of_getElem? (i := 16) rfl))) (by decide) (t := .int) (t' := .int) (by decide) (by decide)))
  have f7 := Fld.other W3 Fc (Or.inr (slot_ne (C := "tiercast/sim/Joining$Faults") (Or.inr (hw _ (List.mem_of_getElem? (i := 20) rfl))) (Or.inr (hw _ (List.mem_of_getElem? (i := 16) rfl))) (by decide) (t := .int) (t' := .int) (by decide) (by decide)))
  have K8 := Keep.wr K0 W3 (Or.inl (List.mem_of_getElem? (i := 0) rfl))
  show OwnWp p e below s _ _ _ (T3.setTop (mkF m 9 #[.val (.ref a1), .val (.int p1), .val (.int p2), .val (.int p3)] []))
  refine OwnWp.step (U' := T3.setTop (mkF m 11 #[.val (.ref a1), .val (.int p1), .val (.int p2), .val (.int p3)] [(.int p2), (.ref a1)])) (fun t k => ?_) ?_
  · show Steps p.tables e below (T3.setTop (mkF m 9 #[.val (.ref a1), .val (.int p1), .val (.int p2), .val (.int p3)] [])) _
    refine XS.aloadN X3.here hx rfl (hb hby d1_9) rfl rfl ?_
    show Steps p.tables e below (T3.setTop (mkF m 10 #[.val (.ref a1), .val (.int p1), .val (.int p2), .val (.int p3)] [(.ref a1)])) _
    refine XS.iloadN X3.here hx rfl (hb hby d1_10) rfl ?_
    show Steps p.tables e below (T3.setTop (mkF m 11 #[.val (.ref a1), .val (.int p1), .val (.int p2), .val (.int p3)] [(.int p2), (.ref a1)])) _
    exact k
  obtain ⟨T9, h9, X9, e9, W9, st9⟩ := putF X3 hx hZ hown (host := "") (Or.inl (hw _ (List.mem_of_getElem? (i := 17) rfl))) Via.refl e3 f6 f4 (Or.inr ⟨(hw _ (List.mem_of_getElem? (i := 18) rfl)), rfl, hnm⟩) (hw _ (List.mem_of_getElem? (i := 2) rfl)) (ty := .int) (by decide) rfl rfl (g := (mkF m 11 #[.val (.ref a1), .val (.int p1), .val (.int p2), .val (.int p3)] [(.int p2), (.ref a1)])) rfl rfl (hb hby d1_11)
  have N9 := own_frs (sl := Jvm.RoadKit.slotOf Z "tiercast/sim/Joining$Faults" "successorsWrong" "I") N3 g0
  have Z9 : n0 ≤ h9.size := by rw [W9.size]; exact Z3
  refine OwnWp.step st9 ?_
  have f10 := Exa.wr W9 f4
  have f11 := Fld.other W9 f5 (Or.inr (slot_ne (C := "tiercast/sim/Joining$Faults") (Or.inr (hw _ (List.mem_of_getElem? (i := 16) rfl))) (Or.inr (hw _ (List.mem_of_getElem? (i := 18) rfl))) (by decide) (t := .int) (t' := .int) (by decide) (by decide)))
  have f12 := Fld.same W9 f6
  have f13 := Fld.other W9 f7 (Or.inr (slot_ne (C := "tiercast/sim/Joining$Faults") (Or.inr (hw _ (List.mem_of_getElem? (i := 20) rfl))) (Or.inr (hw _ (List.mem_of_getElem? (i := 18) rfl))) (by decide) (t := .int) (t' := .int) (by decide) (by decide)))
  have K14 := Keep.wr K8 W9 (Or.inl (List.mem_of_getElem? (i := 0) rfl))
  show OwnWp p e below s _ _ _ (T9.setTop (mkF m 14 #[.val (.ref a1), .val (.int p1), .val (.int p2), .val (.int p3)] []))
  refine OwnWp.step (U' := T9.setTop (mkF m 16 #[.val (.ref a1), .val (.int p1), .val (.int p2), .val (.int p3)] [(.int p3), (.ref a1)])) (fun t k => ?_) ?_
  · show Steps p.tables e below (T9.setTop (mkF m 14 #[.val (.ref a1), .val (.int p1), .val (.int p2), .val (.int p3)] [])) _
    refine XS.aloadN X9.here hx rfl (hb hby d1_14) rfl rfl ?_
    show Steps p.tables e below (T9.setTop (mkF m 15 #[.val (.ref a1), .val (.int p1), .val (.int p2), .val (.int p3)] [(.ref a1)])) _
    refine XS.iloadN X9.here hx rfl (hb hby d1_15) rfl ?_
    show Steps p.tables e below (T9.setTop (mkF m 16 #[.val (.ref a1), .val (.int p1), .val (.int p2), .val (.int p3)] [(.int p3), (.ref a1)])) _
    exact k
  obtain ⟨T15, h15, X15, e15, W15, st15⟩ := putF X9 hx hZ hown (host := "") (Or.inl (hw _ (List.mem_of_getElem? (i := 19) rfl))) Via.refl e9 f13 f10 (Or.inr ⟨(hw _ (List.mem_of_getElem? (i := 20) rfl)), rfl, hnm⟩) (hw _ (List.mem_of_getElem? (i := 2) rfl)) (ty := .int) (by decide) rfl rfl (g := (mkF m 16 #[.val (.ref a1), .val (.int p1), .val (.int p2), .val (.int p3)] [(.int p3), (.ref a1)])) rfl rfl (hb hby d1_16)
  have N15 := own_frs (sl := Jvm.RoadKit.slotOf Z "tiercast/sim/Joining$Faults" "predecessorsWrong" "I") N9 g0
  have Z15 : n0 ≤ h15.size := by rw [W15.size]; exact Z9
  refine OwnWp.step st15 ?_
  have f16 := Exa.wr W15 f10
  have f17 := Fld.other W15 f11 (Or.inr (slot_ne (C := "tiercast/sim/Joining$Faults") (Or.inr (hw _ (List.mem_of_getElem? (i := 16) rfl))) (Or.inr (hw _ (List.mem_of_getElem? (i := 20) rfl))) (by decide) (t := .int) (t' := .int) (by decide) (by decide)))
  have f18 := Fld.other W15 f12 (Or.inr (slot_ne (C := "tiercast/sim/Joining$Faults") (Or.inr (hw _ (List.mem_of_getElem? (i := 18) rfl))) (Or.inr (hw _ (List.mem_of_getElem? (i := 20) rfl))) (by decide) (t := .int) (t' := .int) (by decide) (by decide)))
  have f19 := Fld.same W15 f13
  have K20 := Keep.wr K14 W15 (Or.inl (List.mem_of_getElem? (i := 0) rfl))
  show OwnWp p e below s _ _ _ (T15.setTop (mkF m 19 #[.val (.ref a1), .val (.int p1), .val (.int p2), .val (.int p3)] []))
  refine OwnWp.retV X15 hx hlk Bd.returns (hb hby d1_19) (by decide) (by decide) ?_
  rw [e15]
  exact ⟨rfl, N15, K20, f17, f18, f19⟩
def own_none (p1 p2 p3 : Int32) : Int32 := if p1 + p2 + p3 = 0 then 1 else 0
theorem d4_0 : decode prog_118_method_2_code 0 = .ok (.aload_n 0, 1) := by decide +kernel
theorem d4_1 : decode prog_118_method_2_code 1 = .ok (.getfield 7, 3) := by decide +kernel
theorem d4_4 : decode prog_118_method_2_code 4 = .ok (.aload_n 0, 1) := by decide +kernel
theorem d4_5 : decode prog_118_method_2_code 5 = .ok (.getfield 13, 3) := by decide +kernel
theorem d4_8 : decode prog_118_method_2_code 8 = .ok (.iadd, 1) := by decide +kernel
theorem d4_9 : decode prog_118_method_2_code 9 = .ok (.aload_n 0, 1) := by decide +kernel
theorem d4_10 : decode prog_118_method_2_code 10 = .ok (.getfield 16, 3) := by decide +kernel
theorem d4_13 : decode prog_118_method_2_code 13 = .ok (.iadd, 1) := by decide +kernel
theorem d4_14 : decode prog_118_method_2_code 14 = .ok (.ifCond .ne 7, 3) := by decide +kernel
theorem d4_17 : decode prog_118_method_2_code 17 = .ok (.iconst 1, 1) := by decide +kernel
theorem d4_18 : decode prog_118_method_2_code 18 = .ok (.goto 4, 3) := by decide +kernel
theorem d4_21 : decode prog_118_method_2_code 21 = .ok (.iconst 0, 1) := by decide +kernel
theorem d4_22 : decode prog_118_method_2_code 22 = .ok (.ireturn, 1) := by decide +kernel
theorem pn_4 : plainFor (⟨"tiercast/sim/Joining$Faults", "none", "()Z"⟩ : MethodName) = true := plainFor_of_name (by first | (simp [plainName, overriddenIn]; done) | decide +kernel)
theorem pd_4 : parseMethodDescriptor "()Z" = some ⟨[], some .boolean⟩ := by decide +kernel
theorem ef_4 (m : MethodId) (x0 : Addr) : entryFrame m #[(.ref x0)] 1 = mkF m 0 #[.val (.ref x0)] [] := by first | (simp [entryFrame, mkF, argsToLocals, Value.category, maxLocals]; done) | rfl
def Q4 (Z : State) (a1 : Addr) (p1 : Int32) (p2 : Int32) (p3 : Int32) (h0 : Heap) (n0 : Nat) (v : Option Value) (h : Heap) (L : List Loc) : Prop := v = some (.int (own_none p1 p2 p3)) ∧ Fr n0 L ∧ h = h0
set_option maxRecDepth 65536 in
set_option maxHeartbeats 40000000 in
theorem rm4 (l : Launch) (Z : State) (a0 : Array Value) (hw : ∀ d ∈ tables_1, d.before a0 Z = true) (ws : List Jvm.Cond) (a1 : Addr) (p1 : Int32) (p2 : Int32) (p3 : Int32) (h0 : Heap) (n0 : Nat) (Z0 : n0 ≤ h0.size) (Fa : Fld Z h0 a1 "tiercast/sim/Joining$Faults" "tablesDiffering" "I" (.int p1)) (Fb : Fld Z h0 a1 "tiercast/sim/Joining$Faults" "successorsWrong" "I" (.int p2)) (Fc : Fld Z h0 a1 "tiercast/sim/Joining$Faults" "predecessorsWrong" "I" (.int p3)) :
    MetFree l (⟨"tiercast/sim/Joining$Faults", "none", "()Z"⟩ : MethodName) (head1 (Jvm.Cond.code (⟨"tiercast/sim/Joining$Faults", "none", "()Z"⟩ : MethodName) prog_118_method_2_code 1 (some .boolean) :: ws) ({ frames := 0, cells := 0, slots := 0, locals := 0 } : Room)) (fun a U => a = #[(.ref a1)] ∧ Z.Warmed39 U.vm ∧ U.heap = h0) (fun _ _ _ _ _ => True) (fun _ U o U' => ∃ v L, o = .returned v ∧ Q4 Z a1 p1 p2 p3 h0 n0 v U'.heap L ∧ FrameEnd U o U' L ({ frames := 0, cells := 0, slots := 0, locals := 0 } : Room).cells ({ frames := 0, cells := 0, slots := 0, locals := 0 } : Room).slots) := by
  refine MetFree.of_bodySF pn_4 hisR ?_
  intro p e s m args below meth c s₁ Bd hml0 hP hK
  obtain ⟨rfl, hZ, hh⟩ := hP
  have hx := Bd.exec
  have hby := Bd.bytes
  have hlk := BodyLoose.notSynchronized Bd
  have hml : c.maxLocals = 1 := hml0
  have hown : s.vm.findClass "tiercast/sim/Joining$Faults" = some m.cls := findClass_of_methodNamed Bd.named
  have hnm := (name_of_methodNamed Bd.named Bd.method).1
  have X0 : Stand p l e ({ frames := 0, cells := 0, slots := 0, locals := 0 } : Room) s m #[(.ref a1)] below meth c s₁ [] 0 0 := Stand.of_body Bd
  have e0 : s₁.heap = h0 := by rw [← hh, Bd.state]; rfl
  have N0 := Fr.nil n0
  show OwnWp p e below s ({ frames := 0, cells := 0, slots := 0, locals := 0 } : Room).cells ({ frames := 0, cells := 0, slots := 0, locals := 0 } : Room).slots (Q4 Z a1 p1 p2 p3 h0 n0) (s₁.setTop (entryFrame m #[(.ref a1)] 1))
  refine OwnWp.cast (ef_4 m a1) ?_
  show OwnWp p e below s _ _ _ (s₁.setTop (mkF m 0 #[.val (.ref a1)] []))
  refine OwnWp.step (U' := s₁.setTop (mkF m 1 #[.val (.ref a1)] [(.ref a1)])) (fun t k => ?_) ?_
  · show Steps p.tables e below (s₁.setTop (mkF m 0 #[.val (.ref a1)] [])) _
    refine XS.aloadN X0.here hx rfl (hb hby d4_0) rfl rfl ?_
    show Steps p.tables e below (s₁.setTop (mkF m 1 #[.val (.ref a1)] [(.ref a1)])) _
    exact k
  obtain ⟨T21, X21, e21, st21⟩ := getF X0 hx hZ hown (host := "") (Or.inl (hw _ (List.mem_of_getElem? (i := 15) rfl))) Via.refl e0 Fa (g := (mkF m 1 #[.val (.ref a1)] [(.ref a1)])) rfl rfl (hb hby d4_1)
  refine OwnWp.step st21 ?_
  show OwnWp p e below s _ _ _ (T21.setTop (mkF m 4 #[.val (.ref a1)] [(.int p1)]))
  refine OwnWp.step (U' := T21.setTop (mkF m 5 #[.val (.ref a1)] [(.ref a1), (.int p1)])) (fun t k => ?_) ?_
  · show Steps p.tables e below (T21.setTop (mkF m 4 #[.val (.ref a1)] [(.int p1)])) _
    refine XS.aloadN X21.here hx rfl (hb hby d4_4) rfl rfl ?_
    show Steps p.tables e below (T21.setTop (mkF m 5 #[.val (.ref a1)] [(.ref a1), (.int p1)])) _
    exact k
  obtain ⟨T22, X22, e22, st22⟩ := getF X21 hx hZ hown (host := "") (Or.inl (hw _ (List.mem_of_getElem? (i := 17) rfl))) Via.refl e21 Fb (g := (mkF m 5 #[.val (.ref a1)] [(.ref a1), (.int p1)])) rfl rfl (hb hby d4_5)
  refine OwnWp.step st22 ?_
  show OwnWp p e below s _ _ _ (T22.setTop (mkF m 8 #[.val (.ref a1)] [(.int p2), (.int p1)]))
  refine OwnWp.step (U' := T22.setTop (mkF m 10 #[.val (.ref a1)] [(.ref a1), (.int (p1 + p2))])) (fun t k => ?_) ?_
  · show Steps p.tables e below (T22.setTop (mkF m 8 #[.val (.ref a1)] [(.int p2), (.int p1)])) _
    refine XS.iadd X22.here hx rfl (hb hby d4_8) rfl ?_
    show Steps p.tables e below (T22.setTop (mkF m 9 #[.val (.ref a1)] [(.int (p1 + p2))])) _
    refine XS.aloadN X22.here hx rfl (hb hby d4_9) rfl rfl ?_
    show Steps p.tables e below (T22.setTop (mkF m 10 #[.val (.ref a1)] [(.ref a1), (.int (p1 + p2))])) _
    exact k
  obtain ⟨T23, X23, e23, st23⟩ := getF X22 hx hZ hown (host := "") (Or.inl (hw _ (List.mem_of_getElem? (i := 19) rfl))) Via.refl e22 Fc (g := (mkF m 10 #[.val (.ref a1)] [(.ref a1), (.int (p1 + p2))])) rfl rfl (hb hby d4_10)
  refine OwnWp.step st23 ?_
  show OwnWp p e below s _ _ _ (T23.setTop (mkF m 13 #[.val (.ref a1)] [(.int p3), (.int (p1 + p2))]))
  refine OwnWp.step (U' := T23.setTop (mkF m 14 #[.val (.ref a1)] [(.int ((p1 + p2) + p3))])) (fun t k => ?_) ?_
  · show Steps p.tables e below (T23.setTop (mkF m 13 #[.val (.ref a1)] [(.int p3), (.int (p1 + p2))])) _
    refine XS.iadd X23.here hx rfl (hb hby d4_13) rfl ?_
    show Steps p.tables e below (T23.setTop (mkF m 14 #[.val (.ref a1)] [(.int ((p1 + p2) + p3))])) _
    exact k
  obtain ⟨w1, qw1⟩ : ∃ z : Int32, z = (if ((p1 + p2) + p3) = (0 : Int32) then (1 : Int32) else (0 : Int32)) := ⟨_, rfl⟩
  refine OwnWp.step (U' := T23.setTop (mkF m 22 #[.val (.ref a1)] [(.int w1)])) (fun t k => ?_) ?_
  · show Steps p.tables e below (T23.setTop (mkF m 14 #[.val (.ref a1)] [(.int ((p1 + p2) + p3))])) _
    by_cases c14_24 : ((p1 + p2) + p3) = (0 : Int32)
    · refine XS.ifNo X23.here hx rfl (hb hby d4_14) rfl (XT.i0_ne_f c14_24) ?_
      show Steps p.tables e below (T23.setTop (mkF m 17 #[.val (.ref a1)] [])) _
      refine XT.iconstV X23.here hx rfl (1 : Int32) (hb hby d4_17) rfl ?_
      show Steps p.tables e below (T23.setTop (mkF m 18 #[.val (.ref a1)] [(.int (1 : Int32))])) _
      refine XS.goto X23.here hx rfl (pc0 := 18) (pc' := 22) rfl (hb hby d4_18) (by decide) (by decide) ?_
      show Steps p.tables e below (T23.setTop (mkF m 22 #[.val (.ref a1)] [(.int (1 : Int32))])) _
      rw [show w1 = (1 : Int32) from by rw [qw1, if_pos c14_24]] at k
      exact k
    · refine XS.ifYes X23.here hx rfl (pc0 := 14) (pc' := 21) rfl (hb hby d4_14) rfl (XT.i0_ne_t c14_24) (by decide) (by decide) ?_
      show Steps p.tables e below (T23.setTop (mkF m 21 #[.val (.ref a1)] [])) _
      refine XT.iconstV X23.here hx rfl (0 : Int32) (hb hby d4_21) rfl ?_
      show Steps p.tables e below (T23.setTop (mkF m 22 #[.val (.ref a1)] [(.int (0 : Int32))])) _
      rw [show w1 = (0 : Int32) from by rw [qw1, if_neg c14_24]] at k
      exact k
  refine OwnWp.retZ X23 hx hlk Bd.returns (hb hby d4_22) (by decide) (by decide) (by rw [qw1]; split <;> first | exact Or.inl rfl | exact Or.inr rfl) ?_
  exact ⟨by rw [qw1]; rfl, N0, e23⟩
theorem pn_0 : plainFor (⟨"tiercast/sim/FaultsNonePinLaw", "law", "(IIII)Z"⟩ : MethodName) = true := plainFor_of_name (by first | (simp [plainName, overriddenIn]; done) | decide +kernel)
theorem pd_0 : parseMethodDescriptor "(IIII)Z" = some ⟨[.int, .int, .int, .int], some .boolean⟩ := by decide +kernel
theorem ef_0 (m : MethodId) (x0 : Int32) (x1 : Int32) (x2 : Int32) (x3 : Int32) : entryFrame m #[(.int x0), (.int x1), (.int x2), (.int x3)] maxLocals = mkF m 0 #[.val (.int x0), .val (.int x1), .val (.int x2), .val (.int x3), .unset, .unset, .unset, .unset, .unset] [] := by first | (simp [entryFrame, mkF, argsToLocals, Value.category, maxLocals]; done) | rfl
theorem own_law (p1 : Int32) (p2 : Int32) (p3 : Int32) (p4 : Int32) (w1 : Int32) (qw1 : w1 = (if (p4 &&& (1 : Int32)) = (0 : Int32) then (p1 &&& (1073741823 : Int32)) else (0 : Int32))) (w2 : Int32) (qw2 : w2 = (if (p4 &&& (2 : Int32)) = (0 : Int32) then (p2 &&& (1073741823 : Int32)) else (0 : Int32))) (w3 : Int32) (qw3 : w3 = (if (p4 &&& (4 : Int32)) = (0 : Int32) then (p3 &&& (1073741823 : Int32)) else (0 : Int32))) (w4 : Int32) (qw4 : w4 = (if w1 = (0 : Int32) then (if w2 = (0 : Int32) then (if w3 = (0 : Int32) then (1 : Int32) else (0 : Int32)) else (0 : Int32)) else (0 : Int32))) (w5 : Int32) (qw5 : w5 = (if (own_none w1 w2 w3) = w4 then (1 : Int32) else (0 : Int32))) : w5 = 1 := by
  have m1 := c_mask p1 1073741823 30 (by decide) (by decide)
  have m2 := c_mask p2 1073741823 30 (by decide) (by decide)
  have m3 := c_mask p3 1073741823 30 (by decide) (by decide)
  have r1 : 0 ≤ w1.toInt ∧ w1.toInt < 1073741824 := by
    rw [qw1]; split
    · omega
    · decide
  have r2 : 0 ≤ w2.toInt ∧ w2.toInt < 1073741824 := by
    rw [qw2]; split
    · omega
    · decide
  have r3 : 0 ≤ w3.toInt ∧ w3.toInt < 1073741824 := by
    rw [qw3]; split
    · omega
    · decide
  have s1 := c_iadd w1 w2
  have s2 := c_iadd (w1 + w2) w3
  have t1 := rng32 (w1 + w2)
  have t2 := rng32 (w1 + w2 + w3)
  have l0 : w1 + w2 + w3 = 0 ↔ (w1.toInt = 0 ∧ w2.toInt = 0 ∧ w3.toInt = 0) := by
    rw [← Int32.toInt_inj, show (0 : Int32).toInt = 0 from rfl]; omega
  have l1 : w1 = 0 ↔ w1.toInt = 0 := by rw [← Int32.toInt_inj]; rfl
  have l2 : w2 = 0 ↔ w2.toInt = 0 := by rw [← Int32.toInt_inj]; rfl
  have l3 : w3 = 0 ↔ w3.toInt = 0 := by rw [← Int32.toInt_inj]; rfl
  have hf : own_none w1 w2 w3 = w4 := by
    rw [qw4]; unfold own_none
    by_cases q : w1.toInt = 0 ∧ w2.toInt = 0 ∧ w3.toInt = 0
    · rw [if_pos (l0.mpr q), if_pos (l1.mpr q.1), if_pos (l2.mpr q.2.1), if_pos (l3.mpr q.2.2)]
    · rw [if_neg (fun h => q (l0.mp h))]
      symm
      repeat (split <;> try rfl)
      exact absurd ⟨l1.mp ‹_›, l2.mp ‹_›, l3.mp ‹_›⟩ q
  rw [qw5, if_pos hf]

def Q0 (Z : State) (p1 : Int32) (p2 : Int32) (p3 : Int32) (p4 : Int32)  (h0 : Heap) (n0 : Nat) (v : Option Value) (h : Heap) (L : List Loc) : Prop := v = some (.int 1) ∧ Fr n0 L
set_option maxRecDepth 65536 in
set_option maxHeartbeats 40000000 in
theorem rm0 (l : Launch) (Z : State) (a0 : Array Value) (hw : ∀ d ∈ tables_1, d.before a0 Z = true) (ws : List Jvm.Cond) (p1 : Int32) (p2 : Int32) (p3 : Int32) (p4 : Int32)  (h0 : Heap) (n0 : Nat) (Z0 : n0 ≤ h0.size)  :
    MetFree l x (head1 (Jvm.Cond.code x code maxLocals ret :: ws) room_1) (fun a U => a = #[(.int p1), (.int p2), (.int p3), (.int p4)] ∧ Z.Warmed39 U.vm ∧ U.heap = h0) (fun _ _ _ _ _ => True) (fun _ U o U' => ∃ v L, o = .returned v ∧ Q0 Z p1 p2 p3 p4  h0 n0 v U'.heap L ∧ FrameEnd U o U' L room_1.cells room_1.slots) := by
  refine MetFree.of_bodySF pn_0 hisR ?_
  intro p e s m args below meth c s₁ Bd hml0 hP hK
  obtain ⟨rfl, hZ, hh⟩ := hP
  have hx := Bd.exec
  have hby := Bd.bytes
  have hlk := BodyLoose.notSynchronized Bd
  have hml : c.maxLocals = 9 := hml0
  have hown : s.vm.findClass "tiercast/sim/FaultsNonePinLaw" = some m.cls := findClass_of_methodNamed Bd.named
  have hnm := (name_of_methodNamed Bd.named Bd.method).1
  have X0 : Stand p l e room_1 s m #[(.int p1), (.int p2), (.int p3), (.int p4)] below meth c s₁ [] 0 0 := Stand.of_body Bd
  have e0 : s₁.heap = h0 := by rw [← hh, Bd.state]; rfl
  have N0 := Fr.nil n0
  show OwnWp p e below s room_1.cells room_1.slots (Q0 Z p1 p2 p3 p4  h0 n0) (s₁.setTop (entryFrame m #[(.int p1), (.int p2), (.int p3), (.int p4)] maxLocals))
  refine OwnWp.cast (ef_0 m p1 p2 p3 p4) ?_
  show OwnWp p e below s _ _ _ (s₁.setTop (mkF m 0 #[.val (.int p1), .val (.int p2), .val (.int p3), .val (.int p4), .unset, .unset, .unset, .unset, .unset] []))
  refine OwnWp.step (U' := s₁.setTop (mkF m 3 #[.val (.int p1), .val (.int p2), .val (.int p3), .val (.int p4), .unset, .unset, .unset, .unset, .unset] [(.int (p4 &&& (1 : Int32)))])) (fun t k => ?_) ?_
  · show Steps p.tables e below (s₁.setTop (mkF m 0 #[.val (.int p1), .val (.int p2), .val (.int p3), .val (.int p4), .unset, .unset, .unset, .unset, .unset] [])) _
    refine XS.iloadN X0.here hx rfl (hb hby at_0) rfl ?_
    show Steps p.tables e below (s₁.setTop (mkF m 1 #[.val (.int p1), .val (.int p2), .val (.int p3), .val (.int p4), .unset, .unset, .unset, .unset, .unset] [(.int p4)])) _
    refine XT.iconstV X0.here hx rfl (1 : Int32) (hb hby at_1) rfl ?_
    show Steps p.tables e below (s₁.setTop (mkF m 2 #[.val (.int p1), .val (.int p2), .val (.int p3), .val (.int p4), .unset, .unset, .unset, .unset, .unset] [(.int (1 : Int32)), (.int p4)])) _
    refine XS.iand X0.here hx rfl (hb hby at_2) rfl ?_
    show Steps p.tables e below (s₁.setTop (mkF m 3 #[.val (.int p1), .val (.int p2), .val (.int p3), .val (.int p4), .unset, .unset, .unset, .unset, .unset] [(.int (p4 &&& (1 : Int32)))])) _
    exact k
  obtain ⟨w1, qw1⟩ : ∃ z : Int32, z = (if (p4 &&& (1 : Int32)) = (0 : Int32) then (p1 &&& (1073741823 : Int32)) else (0 : Int32)) := ⟨_, rfl⟩
  refine OwnWp.step (U' := s₁.setTop (mkF m 14 #[.val (.int p1), .val (.int p2), .val (.int p3), .val (.int p4), .unset, .unset, .unset, .unset, .unset] [(.int w1)])) (fun t k => ?_) ?_
  · show Steps p.tables e below (s₁.setTop (mkF m 3 #[.val (.int p1), .val (.int p2), .val (.int p3), .val (.int p4), .unset, .unset, .unset, .unset, .unset] [(.int (p4 &&& (1 : Int32)))])) _
    by_cases c3_25 : (p4 &&& (1 : Int32)) = (0 : Int32)
    · refine XS.ifYes X0.here hx rfl (pc0 := 3) (pc' := 10) rfl (hb hby at_3) rfl (XT.i0_eq_t c3_25) (by decide) (by decide) ?_
      show Steps p.tables e below (s₁.setTop (mkF m 10 #[.val (.int p1), .val (.int p2), .val (.int p3), .val (.int p4), .unset, .unset, .unset, .unset, .unset] [])) _
      refine XS.iloadN X0.here hx rfl (hb hby at_10) rfl ?_
      show Steps p.tables e below (s₁.setTop (mkF m 11 #[.val (.int p1), .val (.int p2), .val (.int p3), .val (.int p4), .unset, .unset, .unset, .unset, .unset] [(.int p1)])) _
      refine X0.ldcI hx hown (mvT hZ (hw _ (List.mem_of_getElem? (i := 0) rfl))) rfl (hb hby at_11) ?_
      show Steps p.tables e below (s₁.setTop (mkF m 13 #[.val (.int p1), .val (.int p2), .val (.int p3), .val (.int p4), .unset, .unset, .unset, .unset, .unset] [(.int (1073741823 : Int32)), (.int p1)])) _
      refine XS.iand X0.here hx rfl (hb hby at_13) rfl ?_
      show Steps p.tables e below (s₁.setTop (mkF m 14 #[.val (.int p1), .val (.int p2), .val (.int p3), .val (.int p4), .unset, .unset, .unset, .unset, .unset] [(.int (p1 &&& (1073741823 : Int32)))])) _
      rw [show w1 = (p1 &&& (1073741823 : Int32)) from by rw [qw1, if_pos c3_25]] at k
      exact k
    · refine XS.ifNo X0.here hx rfl (hb hby at_3) rfl (XT.i0_eq_f c3_25) ?_
      show Steps p.tables e below (s₁.setTop (mkF m 6 #[.val (.int p1), .val (.int p2), .val (.int p3), .val (.int p4), .unset, .unset, .unset, .unset, .unset] [])) _
      refine XT.iconstV X0.here hx rfl (0 : Int32) (hb hby at_6) rfl ?_
      show Steps p.tables e below (s₁.setTop (mkF m 7 #[.val (.int p1), .val (.int p2), .val (.int p3), .val (.int p4), .unset, .unset, .unset, .unset, .unset] [(.int (0 : Int32))])) _
      refine XS.goto X0.here hx rfl (pc0 := 7) (pc' := 14) rfl (hb hby at_7) (by decide) (by decide) ?_
      show Steps p.tables e below (s₁.setTop (mkF m 14 #[.val (.int p1), .val (.int p2), .val (.int p3), .val (.int p4), .unset, .unset, .unset, .unset, .unset] [(.int (0 : Int32))])) _
      rw [show w1 = (0 : Int32) from by rw [qw1, if_neg c3_25]] at k
      exact k
  refine OwnWp.step (U' := s₁.setTop (mkF m 19 #[.val (.int p1), .val (.int p2), .val (.int p3), .val (.int p4), .val (.int w1), .unset, .unset, .unset, .unset] [(.int (p4 &&& (2 : Int32)))])) (fun t k => ?_) ?_
  · show Steps p.tables e below (s₁.setTop (mkF m 14 #[.val (.int p1), .val (.int p2), .val (.int p3), .val (.int p4), .unset, .unset, .unset, .unset, .unset] [(.int w1)])) _
    refine XS.istore X0.here hx rfl (hb hby at_14) rfl (l' := #[.val (.int p1), .val (.int p2), .val (.int p3), .val (.int p4), .val (.int w1), .unset, .unset, .unset, .unset]) rfl ?_
    show Steps p.tables e below (s₁.setTop (mkF m 16 #[.val (.int p1), .val (.int p2), .val (.int p3), .val (.int p4), .val (.int w1), .unset, .unset, .unset, .unset] [])) _
    refine XS.iloadN X0.here hx rfl (hb hby at_16) rfl ?_
    show Steps p.tables e below (s₁.setTop (mkF m 17 #[.val (.int p1), .val (.int p2), .val (.int p3), .val (.int p4), .val (.int w1), .unset, .unset, .unset, .unset] [(.int p4)])) _
    refine XT.iconstV X0.here hx rfl (2 : Int32) (hb hby at_17) rfl ?_
    show Steps p.tables e below (s₁.setTop (mkF m 18 #[.val (.int p1), .val (.int p2), .val (.int p3), .val (.int p4), .val (.int w1), .unset, .unset, .unset, .unset] [(.int (2 : Int32)), (.int p4)])) _
    refine XS.iand X0.here hx rfl (hb hby at_18) rfl ?_
    show Steps p.tables e below (s₁.setTop (mkF m 19 #[.val (.int p1), .val (.int p2), .val (.int p3), .val (.int p4), .val (.int w1), .unset, .unset, .unset, .unset] [(.int (p4 &&& (2 : Int32)))])) _
    exact k
  obtain ⟨w2, qw2⟩ : ∃ z : Int32, z = (if (p4 &&& (2 : Int32)) = (0 : Int32) then (p2 &&& (1073741823 : Int32)) else (0 : Int32)) := ⟨_, rfl⟩
  refine OwnWp.step (U' := s₁.setTop (mkF m 30 #[.val (.int p1), .val (.int p2), .val (.int p3), .val (.int p4), .val (.int w1), .unset, .unset, .unset, .unset] [(.int w2)])) (fun t k => ?_) ?_
  · show Steps p.tables e below (s₁.setTop (mkF m 19 #[.val (.int p1), .val (.int p2), .val (.int p3), .val (.int p4), .val (.int w1), .unset, .unset, .unset, .unset] [(.int (p4 &&& (2 : Int32)))])) _
    by_cases c19_26 : (p4 &&& (2 : Int32)) = (0 : Int32)
    · refine XS.ifYes X0.here hx rfl (pc0 := 19) (pc' := 26) rfl (hb hby at_19) rfl (XT.i0_eq_t c19_26) (by decide) (by decide) ?_
      show Steps p.tables e below (s₁.setTop (mkF m 26 #[.val (.int p1), .val (.int p2), .val (.int p3), .val (.int p4), .val (.int w1), .unset, .unset, .unset, .unset] [])) _
      refine XS.iloadN X0.here hx rfl (hb hby at_26) rfl ?_
      show Steps p.tables e below (s₁.setTop (mkF m 27 #[.val (.int p1), .val (.int p2), .val (.int p3), .val (.int p4), .val (.int w1), .unset, .unset, .unset, .unset] [(.int p2)])) _
      refine X0.ldcI hx hown (mvT hZ (hw _ (List.mem_of_getElem? (i := 0) rfl))) rfl (hb hby at_27) ?_
      show Steps p.tables e below (s₁.setTop (mkF m 29 #[.val (.int p1), .val (.int p2), .val (.int p3), .val (.int p4), .val (.int w1), .unset, .unset, .unset, .unset] [(.int (1073741823 : Int32)), (.int p2)])) _
      refine XS.iand X0.here hx rfl (hb hby at_29) rfl ?_
      show Steps p.tables e below (s₁.setTop (mkF m 30 #[.val (.int p1), .val (.int p2), .val (.int p3), .val (.int p4), .val (.int w1), .unset, .unset, .unset, .unset] [(.int (p2 &&& (1073741823 : Int32)))])) _
      rw [show w2 = (p2 &&& (1073741823 : Int32)) from by rw [qw2, if_pos c19_26]] at k
      exact k
    · refine XS.ifNo X0.here hx rfl (hb hby at_19) rfl (XT.i0_eq_f c19_26) ?_
      show Steps p.tables e below (s₁.setTop (mkF m 22 #[.val (.int p1), .val (.int p2), .val (.int p3), .val (.int p4), .val (.int w1), .unset, .unset, .unset, .unset] [])) _
      refine XT.iconstV X0.here hx rfl (0 : Int32) (hb hby at_22) rfl ?_
      show Steps p.tables e below (s₁.setTop (mkF m 23 #[.val (.int p1), .val (.int p2), .val (.int p3), .val (.int p4), .val (.int w1), .unset, .unset, .unset, .unset] [(.int (0 : Int32))])) _
      refine XS.goto X0.here hx rfl (pc0 := 23) (pc' := 30) rfl (hb hby at_23) (by decide) (by decide) ?_
      show Steps p.tables e below (s₁.setTop (mkF m 30 #[.val (.int p1), .val (.int p2), .val (.int p3), .val (.int p4), .val (.int w1), .unset, .unset, .unset, .unset] [(.int (0 : Int32))])) _
      rw [show w2 = (0 : Int32) from by rw [qw2, if_neg c19_26]] at k
      exact k
  refine OwnWp.step (U' := s₁.setTop (mkF m 35 #[.val (.int p1), .val (.int p2), .val (.int p3), .val (.int p4), .val (.int w1), .val (.int w2), .unset, .unset, .unset] [(.int (p4 &&& (4 : Int32)))])) (fun t k => ?_) ?_
  · show Steps p.tables e below (s₁.setTop (mkF m 30 #[.val (.int p1), .val (.int p2), .val (.int p3), .val (.int p4), .val (.int w1), .unset, .unset, .unset, .unset] [(.int w2)])) _
    refine XS.istore X0.here hx rfl (hb hby at_30) rfl (l' := #[.val (.int p1), .val (.int p2), .val (.int p3), .val (.int p4), .val (.int w1), .val (.int w2), .unset, .unset, .unset]) rfl ?_
    show Steps p.tables e below (s₁.setTop (mkF m 32 #[.val (.int p1), .val (.int p2), .val (.int p3), .val (.int p4), .val (.int w1), .val (.int w2), .unset, .unset, .unset] [])) _
    refine XS.iloadN X0.here hx rfl (hb hby at_32) rfl ?_
    show Steps p.tables e below (s₁.setTop (mkF m 33 #[.val (.int p1), .val (.int p2), .val (.int p3), .val (.int p4), .val (.int w1), .val (.int w2), .unset, .unset, .unset] [(.int p4)])) _
    refine XT.iconstV X0.here hx rfl (4 : Int32) (hb hby at_33) rfl ?_
    show Steps p.tables e below (s₁.setTop (mkF m 34 #[.val (.int p1), .val (.int p2), .val (.int p3), .val (.int p4), .val (.int w1), .val (.int w2), .unset, .unset, .unset] [(.int (4 : Int32)), (.int p4)])) _
    refine XS.iand X0.here hx rfl (hb hby at_34) rfl ?_
    show Steps p.tables e below (s₁.setTop (mkF m 35 #[.val (.int p1), .val (.int p2), .val (.int p3), .val (.int p4), .val (.int w1), .val (.int w2), .unset, .unset, .unset] [(.int (p4 &&& (4 : Int32)))])) _
    exact k
  obtain ⟨w3, qw3⟩ : ∃ z : Int32, z = (if (p4 &&& (4 : Int32)) = (0 : Int32) then (p3 &&& (1073741823 : Int32)) else (0 : Int32)) := ⟨_, rfl⟩
  refine OwnWp.step (U' := s₁.setTop (mkF m 46 #[.val (.int p1), .val (.int p2), .val (.int p3), .val (.int p4), .val (.int w1), .val (.int w2), .unset, .unset, .unset] [(.int w3)])) (fun t k => ?_) ?_
  · show Steps p.tables e below (s₁.setTop (mkF m 35 #[.val (.int p1), .val (.int p2), .val (.int p3), .val (.int p4), .val (.int w1), .val (.int w2), .unset, .unset, .unset] [(.int (p4 &&& (4 : Int32)))])) _
    by_cases c35_27 : (p4 &&& (4 : Int32)) = (0 : Int32)
    · refine XS.ifYes X0.here hx rfl (pc0 := 35) (pc' := 42) rfl (hb hby at_35) rfl (XT.i0_eq_t c35_27) (by decide) (by decide) ?_
      show Steps p.tables e below (s₁.setTop (mkF m 42 #[.val (.int p1), .val (.int p2), .val (.int p3), .val (.int p4), .val (.int w1), .val (.int w2), .unset, .unset, .unset] [])) _
      refine XS.iloadN X0.here hx rfl (hb hby at_42) rfl ?_
      show Steps p.tables e below (s₁.setTop (mkF m 43 #[.val (.int p1), .val (.int p2), .val (.int p3), .val (.int p4), .val (.int w1), .val (.int w2), .unset, .unset, .unset] [(.int p3)])) _
      refine X0.ldcI hx hown (mvT hZ (hw _ (List.mem_of_getElem? (i := 0) rfl))) rfl (hb hby at_43) ?_
      show Steps p.tables e below (s₁.setTop (mkF m 45 #[.val (.int p1), .val (.int p2), .val (.int p3), .val (.int p4), .val (.int w1), .val (.int w2), .unset, .unset, .unset] [(.int (1073741823 : Int32)), (.int p3)])) _
      refine XS.iand X0.here hx rfl (hb hby at_45) rfl ?_
      show Steps p.tables e below (s₁.setTop (mkF m 46 #[.val (.int p1), .val (.int p2), .val (.int p3), .val (.int p4), .val (.int w1), .val (.int w2), .unset, .unset, .unset] [(.int (p3 &&& (1073741823 : Int32)))])) _
      rw [show w3 = (p3 &&& (1073741823 : Int32)) from by rw [qw3, if_pos c35_27]] at k
      exact k
    · refine XS.ifNo X0.here hx rfl (hb hby at_35) rfl (XT.i0_eq_f c35_27) ?_
      show Steps p.tables e below (s₁.setTop (mkF m 38 #[.val (.int p1), .val (.int p2), .val (.int p3), .val (.int p4), .val (.int w1), .val (.int w2), .unset, .unset, .unset] [])) _
      refine XT.iconstV X0.here hx rfl (0 : Int32) (hb hby at_38) rfl ?_
      show Steps p.tables e below (s₁.setTop (mkF m 39 #[.val (.int p1), .val (.int p2), .val (.int p3), .val (.int p4), .val (.int w1), .val (.int w2), .unset, .unset, .unset] [(.int (0 : Int32))])) _
      refine XS.goto X0.here hx rfl (pc0 := 39) (pc' := 46) rfl (hb hby at_39) (by decide) (by decide) ?_
      show Steps p.tables e below (s₁.setTop (mkF m 46 #[.val (.int p1), .val (.int p2), .val (.int p3), .val (.int p4), .val (.int w1), .val (.int w2), .unset, .unset, .unset] [(.int (0 : Int32))])) _
      rw [show w3 = (0 : Int32) from by rw [qw3, if_neg c35_27]] at k
      exact k
  refine OwnWp.step (U' := s₁.setTop (mkF m 48 #[.val (.int p1), .val (.int p2), .val (.int p3), .val (.int p4), .val (.int w1), .val (.int w2), .val (.int w3), .unset, .unset] [])) (fun t k => ?_) ?_
  · show Steps p.tables e below (s₁.setTop (mkF m 46 #[.val (.int p1), .val (.int p2), .val (.int p3), .val (.int p4), .val (.int w1), .val (.int w2), .unset, .unset, .unset] [(.int w3)])) _
    refine XS.istore X0.here hx rfl (hb hby at_46) rfl (l' := #[.val (.int p1), .val (.int p2), .val (.int p3), .val (.int p4), .val (.int w1), .val (.int w2), .val (.int w3), .unset, .unset]) rfl ?_
    show Steps p.tables e below (s₁.setTop (mkF m 48 #[.val (.int p1), .val (.int p2), .val (.int p3), .val (.int p4), .val (.int w1), .val (.int w2), .val (.int w3), .unset, .unset] [])) _
    exact k
  obtain ⟨T28, h28, X28, e28, E28, A28, D28, -, st28⟩ := newO X0 hx hZ hown (hw _ (List.mem_of_getElem? (i := 1) rfl)) (hw _ (List.mem_of_getElem? (i := 2) rfl)) (hw _ (List.mem_of_getElem? (i := 3) rfl)) e0 (g := (mkF m 48 #[.val (.int p1), .val (.int p2), .val (.int p3), .val (.int p4), .val (.int w1), .val (.int w2), .val (.int w3), .unset, .unset] [])) rfl (hb hby at_48) (by decide) (by decide)
  obtain ⟨ad28, ga28⟩ : ∃ z, z = h0.size := ⟨_, rfl⟩
  rw [← ga28] at A28 D28 st28
  refine OwnWp.step st28 ?_
  have Z28 : n0 ≤ h28.size := Nat.le_trans Z0 E28.1
  have b28 : n0 ≤ ad28 := Nat.le_trans Z0 (Nat.le_of_eq ga28.symm)
  have F29 : Fld Z h28 ad28 "tiercast/sim/Joining$Faults" "tablesDiffering" "I" (.int (0 : Int32)) := D28 (Or.inr (hw _ (List.mem_of_getElem? (i := 16) rfl))) (ty := .int) (by decide)
  have F30 : Fld Z h28 ad28 "tiercast/sim/Joining$Faults" "successorsWrong" "I" (.int (0 : Int32)) := D28 (Or.inr (hw _ (List.mem_of_getElem? (i := 18) rfl))) (ty := .int) (by decide)
  have F31 : Fld Z h28 ad28 "tiercast/sim/Joining$Faults" "predecessorsWrong" "I" (.int (0 : Int32)) := D28 (Or.inr (hw _ (List.mem_of_getElem? (i := 20) rfl))) (ty := .int) (by decide)
  show OwnWp p e below s _ _ _ (T28.setTop (mkF m 51 #[.val (.int p1), .val (.int p2), .val (.int p3), .val (.int p4), .val (.int w1), .val (.int w2), .val (.int w3), .unset, .unset] [(.ref ad28)]))
  refine OwnWp.step (U' := T28.setTop (mkF m 58 #[.val (.int p1), .val (.int p2), .val (.int p3), .val (.int p4), .val (.int w1), .val (.int w2), .val (.int w3), .unset, .unset] [(.int w3), (.int w2), (.int w1), (.ref ad28), (.ref ad28)])) (fun t k => ?_) ?_
  · show Steps p.tables e below (T28.setTop (mkF m 51 #[.val (.int p1), .val (.int p2), .val (.int p3), .val (.int p4), .val (.int w1), .val (.int w2), .val (.int w3), .unset, .unset] [(.ref ad28)])) _
    refine XS.dup X28.here hx rfl (hb hby at_51) rfl rfl ?_
    show Steps p.tables e below (T28.setTop (mkF m 52 #[.val (.int p1), .val (.int p2), .val (.int p3), .val (.int p4), .val (.int w1), .val (.int w2), .val (.int w3), .unset, .unset] [(.ref ad28), (.ref ad28)])) _
    refine XS.iload X28.here hx rfl (hb hby at_52) rfl ?_
    show Steps p.tables e below (T28.setTop (mkF m 54 #[.val (.int p1), .val (.int p2), .val (.int p3), .val (.int p4), .val (.int w1), .val (.int w2), .val (.int w3), .unset, .unset] [(.int w1), (.ref ad28), (.ref ad28)])) _
    refine XS.iload X28.here hx rfl (hb hby at_54) rfl ?_
    show Steps p.tables e below (T28.setTop (mkF m 56 #[.val (.int p1), .val (.int p2), .val (.int p3), .val (.int p4), .val (.int w1), .val (.int w2), .val (.int w3), .unset, .unset] [(.int w2), (.int w1), (.ref ad28), (.ref ad28)])) _
    refine XS.iload X28.here hx rfl (hb hby at_56) rfl ?_
    show Steps p.tables e below (T28.setTop (mkF m 58 #[.val (.int p1), .val (.int p2), .val (.int p3), .val (.int p4), .val (.int w1), .val (.int w2), .val (.int w3), .unset, .unset] [(.int w3), (.int w2), (.int w1), (.ref ad28), (.ref ad28)])) _
    exact k
  obtain ⟨_, _, ⟨T32, L32, k32, n32⟩, -, X32, ⟨Lc32, hQ32, l32, y32, z32⟩, st32⟩ := X28.specialBack hx (y := (⟨"tiercast/sim/Joining$Faults", "<init>", "(III)V"⟩ : MethodName)) rfl hown (mvT hZ (hw _ (List.mem_of_getElem? (i := 4) rfl))) (mvT hZ (hw _ (List.mem_of_getElem? (i := 5) rfl))) (mvT hZ (hw _ (List.mem_of_getElem? (i := 6) rfl))) (by decide) (backOf (W := 1) (rm1 l Z a0 hw [] ad28 w1 w2 w3 h28 n0 Z28 b28 A28 F29 F30 F31) hZ (hw _ (List.mem_of_getElem? (i := 6) rfl)) (hw _ (List.mem_of_getElem? (i := 3) rfl)) (by decide) (by decide)) (g := (mkF m 58 #[.val (.int p1), .val (.int p2), .val (.int p3), .val (.int p4), .val (.int w1), .val (.int w2), .val (.int w3), .unset, .unset] [(.int w3), (.int w2), (.int w1), (.ref ad28), (.ref ad28)])) rfl (by rw [hml]; rfl) (Steps.refl _) (a := ad28) (argsL := [(.int w1), (.int w2), (.int w3)]) (rest := [(.ref ad28)]) (lenOf pd_1 rfl) rfl (by show 2 * 0 + _ ≤ _; exact Nat.le_of_eq rfl) (hb hby at_58) (fun _ _ => ⟨rfl, e28, (by dsimp only [Pt.cells]; decide), (by dsimp only [Pt.slots]; decide)⟩)
  dsimp only [Pt.U, Pt.locs, Pt.cells, Pt.slots] at X32 l32 y32 z32 st32 hQ32
  subst l32 y32 z32
  obtain ⟨rfl, Nc32, Kc32, ga32, gb32, gc32⟩ := hQ32
  have N32 := Fr.app N0 Nc32
  refine OwnWp.go st32 ?_
  have Z32 : n0 ≤ T32.heap.size := Nat.le_trans Z28 Kc32.1
  have f33 := Exa.keep A28 Kc32
  show OwnWp p e below s _ _ _ (T32.setTop (mkF m 61 #[.val (.int p1), .val (.int p2), .val (.int p3), .val (.int p4), .val (.int w1), .val (.int w2), .val (.int w3), .unset, .unset] [(.ref ad28)]))
  refine OwnWp.step (U' := T32.setTop (mkF m 65 #[.val (.int p1), .val (.int p2), .val (.int p3), .val (.int p4), .val (.int w1), .val (.int w2), .val (.int w3), .val (.ref ad28), .unset] [(.int w1)])) (fun t k => ?_) ?_
  · show Steps p.tables e below (T32.setTop (mkF m 61 #[.val (.int p1), .val (.int p2), .val (.int p3), .val (.int p4), .val (.int w1), .val (.int w2), .val (.int w3), .unset, .unset] [(.ref ad28)])) _
    refine XS.astore X32.here hx rfl (hb hby at_61) rfl rfl (l' := #[.val (.int p1), .val (.int p2), .val (.int p3), .val (.int p4), .val (.int w1), .val (.int w2), .val (.int w3), .val (.ref ad28), .unset]) rfl ?_
    show Steps p.tables e below (T32.setTop (mkF m 63 #[.val (.int p1), .val (.int p2), .val (.int p3), .val (.int p4), .val (.int w1), .val (.int w2), .val (.int w3), .val (.ref ad28), .unset] [])) _
    refine XS.iload X32.here hx rfl (hb hby at_63) rfl ?_
    show Steps p.tables e below (T32.setTop (mkF m 65 #[.val (.int p1), .val (.int p2), .val (.int p3), .val (.int p4), .val (.int w1), .val (.int w2), .val (.int w3), .val (.ref ad28), .unset] [(.int w1)])) _
    exact k
  obtain ⟨w4, qw4⟩ : ∃ z : Int32, z = (if w1 = (0 : Int32) then (if w2 = (0 : Int32) then (if w3 = (0 : Int32) then (1 : Int32) else (0 : Int32)) else (0 : Int32)) else (0 : Int32)) := ⟨_, rfl⟩
  refine OwnWp.step (U' := T32.setTop (mkF m 83 #[.val (.int p1), .val (.int p2), .val (.int p3), .val (.int p4), .val (.int w1), .val (.int w2), .val (.int w3), .val (.ref ad28), .unset] [(.int w4)])) (fun t k => ?_) ?_
  · show Steps p.tables e below (T32.setTop (mkF m 65 #[.val (.int p1), .val (.int p2), .val (.int p3), .val (.int p4), .val (.int w1), .val (.int w2), .val (.int w3), .val (.ref ad28), .unset] [(.int w1)])) _
    by_cases c65_37 : w1 = (0 : Int32)
    · refine XS.ifNo X32.here hx rfl (hb hby at_65) rfl (XT.i0_ne_f c65_37) ?_
      show Steps p.tables e below (T32.setTop (mkF m 68 #[.val (.int p1), .val (.int p2), .val (.int p3), .val (.int p4), .val (.int w1), .val (.int w2), .val (.int w3), .val (.ref ad28), .unset] [])) _
      refine XS.iload X32.here hx rfl (hb hby at_68) rfl ?_
      show Steps p.tables e below (T32.setTop (mkF m 70 #[.val (.int p1), .val (.int p2), .val (.int p3), .val (.int p4), .val (.int w1), .val (.int w2), .val (.int w3), .val (.ref ad28), .unset] [(.int w2)])) _
      by_cases c70_38 : w2 = (0 : Int32)
      · refine XS.ifNo X32.here hx rfl (hb hby at_70) rfl (XT.i0_ne_f c70_38) ?_
        show Steps p.tables e below (T32.setTop (mkF m 73 #[.val (.int p1), .val (.int p2), .val (.int p3), .val (.int p4), .val (.int w1), .val (.int w2), .val (.int w3), .val (.ref ad28), .unset] [])) _
        refine XS.iload X32.here hx rfl (hb hby at_73) rfl ?_
        show Steps p.tables e below (T32.setTop (mkF m 75 #[.val (.int p1), .val (.int p2), .val (.int p3), .val (.int p4), .val (.int w1), .val (.int w2), .val (.int w3), .val (.ref ad28), .unset] [(.int w3)])) _
        by_cases c75_39 : w3 = (0 : Int32)
        · refine XS.ifNo X32.here hx rfl (hb hby at_75) rfl (XT.i0_ne_f c75_39) ?_
          show Steps p.tables e below (T32.setTop (mkF m 78 #[.val (.int p1), .val (.int p2), .val (.int p3), .val (.int p4), .val (.int w1), .val (.int w2), .val (.int w3), .val (.ref ad28), .unset] [])) _
          refine XT.iconstV X32.here hx rfl (1 : Int32) (hb hby at_78) rfl ?_
          show Steps p.tables e below (T32.setTop (mkF m 79 #[.val (.int p1), .val (.int p2), .val (.int p3), .val (.int p4), .val (.int w1), .val (.int w2), .val (.int w3), .val (.ref ad28), .unset] [(.int (1 : Int32))])) _
          refine XS.goto X32.here hx rfl (pc0 := 79) (pc' := 83) rfl (hb hby at_79) (by decide) (by decide) ?_
          show Steps p.tables e below (T32.setTop (mkF m 83 #[.val (.int p1), .val (.int p2), .val (.int p3), .val (.int p4), .val (.int w1), .val (.int w2), .val (.int w3), .val (.ref ad28), .unset] [(.int (1 : Int32))])) _
          rw [show w4 = (1 : Int32) from by rw [qw4, if_pos c65_37, if_pos c70_38, if_pos c75_39]] at k
          exact k
        · refine XS.ifYes X32.here hx rfl (pc0 := 75) (pc' := 82) rfl (hb hby at_75) rfl (XT.i0_ne_t c75_39) (by decide) (by decide) ?_
          show Steps p.tables e below (T32.setTop (mkF m 82 #[.val (.int p1), .val (.int p2), .val (.int p3), .val (.int p4), .val (.int w1), .val (.int w2), .val (.int w3), .val (.ref ad28), .unset] [])) _
          refine XT.iconstV X32.here hx rfl (0 : Int32) (hb hby at_82) rfl ?_
          show Steps p.tables e below (T32.setTop (mkF m 83 #[.val (.int p1), .val (.int p2), .val (.int p3), .val (.int p4), .val (.int w1), .val (.int w2), .val (.int w3), .val (.ref ad28), .unset] [(.int (0 : Int32))])) _
          rw [show w4 = (0 : Int32) from by rw [qw4, if_pos c65_37, if_pos c70_38, if_neg c75_39]] at k
          exact k
      · refine XS.ifYes X32.here hx rfl (pc0 := 70) (pc' := 82) rfl (hb hby at_70) rfl (XT.i0_ne_t c70_38) (by decide) (by decide) ?_
        show Steps p.tables e below (T32.setTop (mkF m 82 #[.val (.int p1), .val (.int p2), .val (.int p3), .val (.int p4), .val (.int w1), .val (.int w2), .val (.int w3), .val (.ref ad28), .unset] [])) _
        refine XT.iconstV X32.here hx rfl (0 : Int32) (hb hby at_82) rfl ?_
        show Steps p.tables e below (T32.setTop (mkF m 83 #[.val (.int p1), .val (.int p2), .val (.int p3), .val (.int p4), .val (.int w1), .val (.int w2), .val (.int w3), .val (.ref ad28), .unset] [(.int (0 : Int32))])) _
        rw [show w4 = (0 : Int32) from by rw [qw4, if_pos c65_37, if_neg c70_38]] at k
        exact k
    · refine XS.ifYes X32.here hx rfl (pc0 := 65) (pc' := 82) rfl (hb hby at_65) rfl (XT.i0_ne_t c65_37) (by decide) (by decide) ?_
      show Steps p.tables e below (T32.setTop (mkF m 82 #[.val (.int p1), .val (.int p2), .val (.int p3), .val (.int p4), .val (.int w1), .val (.int w2), .val (.int w3), .val (.ref ad28), .unset] [])) _
      refine XT.iconstV X32.here hx rfl (0 : Int32) (hb hby at_82) rfl ?_
      show Steps p.tables e below (T32.setTop (mkF m 83 #[.val (.int p1), .val (.int p2), .val (.int p3), .val (.int p4), .val (.int w1), .val (.int w2), .val (.int w3), .val (.ref ad28), .unset] [(.int (0 : Int32))])) _
      rw [show w4 = (0 : Int32) from by rw [qw4, if_neg c65_37]] at k
      exact k
  refine OwnWp.step (U' := T32.setTop (mkF m 87 #[.val (.int p1), .val (.int p2), .val (.int p3), .val (.int p4), .val (.int w1), .val (.int w2), .val (.int w3), .val (.ref ad28), .val (.int w4)] [(.ref ad28)])) (fun t k => ?_) ?_
  · show Steps p.tables e below (T32.setTop (mkF m 83 #[.val (.int p1), .val (.int p2), .val (.int p3), .val (.int p4), .val (.int w1), .val (.int w2), .val (.int w3), .val (.ref ad28), .unset] [(.int w4)])) _
    refine XS.istore X32.here hx rfl (hb hby at_83) rfl (l' := #[.val (.int p1), .val (.int p2), .val (.int p3), .val (.int p4), .val (.int w1), .val (.int w2), .val (.int w3), .val (.ref ad28), .val (.int w4)]) rfl ?_
    show Steps p.tables e below (T32.setTop (mkF m 85 #[.val (.int p1), .val (.int p2), .val (.int p3), .val (.int p4), .val (.int w1), .val (.int w2), .val (.int w3), .val (.ref ad28), .val (.int w4)] [])) _
    refine XS.aload X32.here hx rfl (hb hby at_85) rfl rfl ?_
    show Steps p.tables e below (T32.setTop (mkF m 87 #[.val (.int p1), .val (.int p2), .val (.int p3), .val (.int p4), .val (.int w1), .val (.int w2), .val (.int w3), .val (.ref ad28), .val (.int w4)] [(.ref ad28)])) _
    exact k
  obtain ⟨cq40, kq40, qa40, qb40, qc40⟩ := isOf hZ (rfl : T32.heap = T32.heap) f33
  obtain ⟨_, _, ⟨T40, L40, k40, n40⟩, -, X40, ⟨Lc40, hQ40, l40, y40, z40⟩, st40⟩ := X32.virtualBack hx (y := (⟨"tiercast/sim/Joining$Faults", "none", "()Z"⟩ : MethodName)) (z := (⟨"tiercast/sim/Joining$Faults", "none", "()Z"⟩ : MethodName)) hown (mvT hZ (hw _ (List.mem_of_getElem? (i := 21) rfl))) (mvT hZ (hw _ (List.mem_of_getElem? (i := 22) rfl))) (notFace_of_selects (args := #[]) (mvT hZ (hw _ (List.mem_of_getElem? (i := 24) rfl)))) (mvT hZ (hw _ (List.mem_of_getElem? (i := 24) rfl))) (mvT hZ (hw _ (List.mem_of_getElem? (i := 23) rfl))) (by decide) (backOf (W := 0) (rm4 l Z a0 hw [] ad28 w1 w2 w3 T32.heap n0 Z32 ga32 gb32 gc32) hZ (hw _ (List.mem_of_getElem? (i := 25) rfl)) (hw _ (List.mem_of_getElem? (i := 3) rfl)) (by decide) (by decide)) qa40 qc40 (g := (mkF m 87 #[.val (.int p1), .val (.int p2), .val (.int p3), .val (.int p4), .val (.int w1), .val (.int w2), .val (.int w3), .val (.ref ad28), .val (.int w4)] [(.ref ad28)])) rfl (by rw [hml]; rfl) (Steps.refl _) (argsL := []) (rest := []) (lenOf pd_4 rfl) rfl (by show 2 * 0 + _ ≤ _; exact Nat.le_of_eq rfl) (hb hby at_87) (fun _ _ => ⟨rfl, (rfl : T32.heap = T32.heap), (by dsimp only [Pt.cells]; decide), (by dsimp only [Pt.slots]; decide)⟩)
  dsimp only [Pt.U, Pt.locs, Pt.cells, Pt.slots] at X40 l40 y40 z40 st40 hQ40
  subst l40 y40 z40
  obtain ⟨rfl, Nc40, hp40⟩ := hQ40
  have N40 := Fr.app N32 Nc40
  refine OwnWp.go st40 ?_
  have eh40 : T40.heap = T32.heap := hp40
  show OwnWp p e below s _ _ _ (T40.setTop (mkF m 90 #[.val (.int p1), .val (.int p2), .val (.int p3), .val (.int p4), .val (.int w1), .val (.int w2), .val (.int w3), .val (.ref ad28), .val (.int w4)] [(.int (own_none w1 w2 w3))]))
  refine OwnWp.step (U' := T40.setTop (mkF m 92 #[.val (.int p1), .val (.int p2), .val (.int p3), .val (.int p4), .val (.int w1), .val (.int w2), .val (.int w3), .val (.ref ad28), .val (.int w4)] [(.int w4), (.int (own_none w1 w2 w3))])) (fun t k => ?_) ?_
  · show Steps p.tables e below (T40.setTop (mkF m 90 #[.val (.int p1), .val (.int p2), .val (.int p3), .val (.int p4), .val (.int w1), .val (.int w2), .val (.int w3), .val (.ref ad28), .val (.int w4)] [(.int (own_none w1 w2 w3))])) _
    refine XS.iload X40.here hx rfl (hb hby at_90) rfl ?_
    show Steps p.tables e below (T40.setTop (mkF m 92 #[.val (.int p1), .val (.int p2), .val (.int p3), .val (.int p4), .val (.int w1), .val (.int w2), .val (.int w3), .val (.ref ad28), .val (.int w4)] [(.int w4), (.int (own_none w1 w2 w3))])) _
    exact k
  obtain ⟨w5, qw5⟩ : ∃ z : Int32, z = (if (own_none w1 w2 w3) = w4 then (1 : Int32) else (0 : Int32)) := ⟨_, rfl⟩
  refine OwnWp.step (U' := T40.setTop (mkF m 100 #[.val (.int p1), .val (.int p2), .val (.int p3), .val (.int p4), .val (.int w1), .val (.int w2), .val (.int w3), .val (.ref ad28), .val (.int w4)] [(.int w5)])) (fun t k => ?_) ?_
  · show Steps p.tables e below (T40.setTop (mkF m 92 #[.val (.int p1), .val (.int p2), .val (.int p3), .val (.int p4), .val (.int w1), .val (.int w2), .val (.int w3), .val (.ref ad28), .val (.int w4)] [(.int w4), (.int (own_none w1 w2 w3))])) _
    by_cases c92_41 : (own_none w1 w2 w3) = w4
    · refine XS.icmpNo X40.here hx rfl (hb hby at_92) rfl (XT.ii_ne_f c92_41) ?_
      show Steps p.tables e below (T40.setTop (mkF m 95 #[.val (.int p1), .val (.int p2), .val (.int p3), .val (.int p4), .val (.int w1), .val (.int w2), .val (.int w3), .val (.ref ad28), .val (.int w4)] [])) _
      refine XT.iconstV X40.here hx rfl (1 : Int32) (hb hby at_95) rfl ?_
      show Steps p.tables e below (T40.setTop (mkF m 96 #[.val (.int p1), .val (.int p2), .val (.int p3), .val (.int p4), .val (.int w1), .val (.int w2), .val (.int w3), .val (.ref ad28), .val (.int w4)] [(.int (1 : Int32))])) _
      refine XS.goto X40.here hx rfl (pc0 := 96) (pc' := 100) rfl (hb hby at_96) (by decide) (by decide) ?_
      show Steps p.tables e below (T40.setTop (mkF m 100 #[.val (.int p1), .val (.int p2), .val (.int p3), .val (.int p4), .val (.int w1), .val (.int w2), .val (.int w3), .val (.ref ad28), .val (.int w4)] [(.int (1 : Int32))])) _
      rw [show w5 = (1 : Int32) from by rw [qw5, if_pos c92_41]] at k
      exact k
    · refine XS.icmpYes X40.here hx rfl (pc0 := 92) (pc' := 99) rfl (hb hby at_92) rfl (XT.ii_ne_t c92_41) (by decide) (by decide) ?_
      show Steps p.tables e below (T40.setTop (mkF m 99 #[.val (.int p1), .val (.int p2), .val (.int p3), .val (.int p4), .val (.int w1), .val (.int w2), .val (.int w3), .val (.ref ad28), .val (.int w4)] [])) _
      refine XT.iconstV X40.here hx rfl (0 : Int32) (hb hby at_99) rfl ?_
      show Steps p.tables e below (T40.setTop (mkF m 100 #[.val (.int p1), .val (.int p2), .val (.int p3), .val (.int p4), .val (.int w1), .val (.int w2), .val (.int w3), .val (.ref ad28), .val (.int w4)] [(.int (0 : Int32))])) _
      rw [show w5 = (0 : Int32) from by rw [qw5, if_neg c92_41]] at k
      exact k
  have hfin := (own_law p1 p2 p3 p4 w1 qw1 w2 qw2 w3 qw3 w4 qw4 w5 qw5)
  refine OwnWp.retZ X40 hx hlk Bd.returns (hb hby at_100) (by decide) (by decide) (Or.inr hfin) ?_
  exact ⟨by rw [hfin], N40⟩
set_option maxRecDepth 65536 in
set_option maxHeartbeats 40000000 in
theorem comes_1 {Post : Tables → Env → Array Value → State → Outcome → State → Prop} (hpost : ∀ tb e args s v u, (limb_1_1.after args s (.returned v) u = true ∧ limb_1_2.after args s (.returned v) u = true ∧ True) → FrameEnd s (.returned v) u (Jvm.fieldLocs frame_1_writes args s ++ Jvm.arrayLocs frame_1_arrays args s ++ Jvm.staticLocs frame_1_statics s) 16 128 → Post tb e args s (.returned v) u) :
    ArmFor flags0 classFile x code maxLocals ret World_1 tables_1 room_1 Calls_1 rest_1 Pre_1 Post := by
  intro l hfl _ _ p e ha hc hk s m args below hf hA hF happ hP
  obtain ⟨hcalls, hrest, hpre⟩ := hP
  obtain ⟨-, -, -, hnamed, -, -, -, hat⟩ := (Spec.applies_iff hf).mp happ
  obtain ⟨hg, hn⟩ := and_e (Cond.before_iff.mp (show (Jvm.Cond.and given_1 narrow_1).before args s = true from hpre))
  obtain ⟨hcount, g0⟩ := and_e hg
  obtain ⟨w0, w1, w2, w3, rfl⟩ : ∃ w0 w1 w2 w3 : Value, args = #[w0, w1, w2, w3] := by
    have hs : args.size = 4 := by simpa [Cond.value, given_1] using hcount
    obtain ⟨L⟩ := args
    match L, hs with
    | [w0, w1, w2, w3], _ => exact ⟨w0, w1, w2, w3, rfl⟩
  have hw := fun d (hd : d ∈ tables_1) => atoms_spec (ws := Jvm.Cond.code x code maxLocals ret :: tables_1) hat d (List.mem_cons_of_mem _ hd)
  obtain ⟨u0, g1⟩ := and_e g0
  obtain ⟨i0, e0⟩ := is_v u0
  obtain rfl : w0 = (.int i0) := Option.some.inj e0
  obtain ⟨u1, g2⟩ := and_e g1
  obtain ⟨i1, e1⟩ := is_v u1
  obtain rfl : w1 = (.int i1) := Option.some.inj e1
  obtain ⟨u2, g3⟩ := and_e g2
  obtain ⟨i2, e2⟩ := is_v u2
  obtain rfl : w2 = (.int i2) := Option.some.inj e2
  obtain ⟨i3, e3⟩ := is_v g3
  obtain rfl : w3 = (.int i3) := Option.some.inj e3
  obtain ⟨n, o, h1, h2, h3, _, L, rfl, ⟨rfl, N⟩, hq⟩ := rm0 l s _ hw tables_1 i0 i1 i2 i3 s.heap s.heap.size (Nat.le_refl _) p e ha hc hk s m _ below hf ((Spec.applies_iff_loose hf).mp happ).1 ⟨rfl, State.Warmed39.refl s, rfl⟩ trivial
  refine ⟨n, _, h1, h2, h3, hpost _ _ _ _ _ _ ⟨Cond.after_iff.mpr rfl, Cond.after_iff.mpr (eq_i res_at (Term.int_eval (1)) rfl), trivial⟩ ⟨hq.1, hq.2.1, (hq.2.2.sift fun y hy => Or.inr (N y hy)).mono (by decide) (by decide)⟩⟩
theorem main_1_1 : Claimed_1_1 := comes_1 fun _ _ _ _ _ _ h hF => ⟨h.1, hF⟩
theorem main_1_2 : Claimed_1_2 := comes_1 fun _ _ _ _ _ _ h hF => ⟨h.2.1, hF⟩
end Jvm.Pilot.@@N@@
namespace Jvm.Pilot.@@N@@
open Jvm Jvm.ClassFile Sem Op Lib Jvm.Free Jvm.Stand Jvm.Pilot.@@N@@.Jvm.D
/-! MADE BY PROGRAM (witnessworld.py) out of the Statement's table words and the real class files: 10 classes; the members and pool entries that the words name. The judged class is class 1, her method 1. -/
namespace start1
open Jvm.ClassFile
def u (s : String) : CpInfo := .utf8 (stringToUtf16 s)
/-- a pool by its gaps: so many unusable entries, then the entry; so many at the end -/
def gap : Nat → List CpInfo → List CpInfo
  | 0, r => r
  | n + 1, r => .unusable :: gap n r
def poolList (es : List (Nat × CpInfo)) (last : Nat) : List CpInfo := es.foldr (fun e r => gap e.1 (e.2 :: r)) (gap last [])
def pool (es : List (Nat × CpInfo)) (last : Nat) : Array CpInfo := ⟨poolList es last⟩
def fileOf (pool : Array CpInfo) (this : Nat) (attrs : Array Attribute := #[]) (ms : Array MethodInfo := #[]) (fl : Nat := 33) (sup : Nat := 0) (ifs : Array Nat := #[]) (fds : Array FieldInfo := #[]) : ClassFile where
  minorVersion := 0
  majorVersion := 65
  constantPool := pool
  accessFlags := fl
  thisClass := this
  superClass := sup
  interfaces := ifs
  fields := fds
  methods := ms
  attributes := attrs
def plain (name : String) (sup : Option ClassId) : Class where
  name := name
  kind := .ordinary
  loader := none
  accessFlags := 33
  super := sup
  interfaces := #[]
  cf := none
  fields := #[]
  methods := #[]
  instanceTypes := #[]
  staticTypes := #[]
  resolved := #[]
  callSites := []
  init := .initialized
  statics := none
  mirror := none

def pool0 : Array CpInfo := pool [(5, u "<init>"), (0, u "()V"), (1, .class_ 10), (1, u "java/lang/Object")] 113

def k0c0 : Code := { maxStack := 0, maxLocals := 1, code := object_method_1_code, exceptionTable := #[], attributes := #[] }
def k0m0 : Method := { name := "<init>", desc := "()V", sig := { parameters := [], returnType := none }, accessFlags := 1, code := some k0c0 }
/-- java/lang/Object -/
def k0 : Class := { plain "java/lang/Object" none with
  accessFlags := 33
  interfaces := #[]
  cf := some (fileOf pool0 8 #[] #[{ accessFlags := 1, nameIndex := 5, descriptorIndex := 6, attributes := #[] }] 33 0 #[] #[])
  fields := #[]
  methods := #[k0m0]
  instanceTypes := #[]
  staticTypes := #[]
  resolved := Array.replicate 124 none
  statics := none }

def pool1 : Array CpInfo := pool [(2, .class_ 4), (1, u "java/lang/Object"), (0, u "<init>"), (0, u "()V"), (0, .integer 1073741823), (0, .class_ 9), (0, u "tiercast/sim/Joining$Faults"), (0, .methodref 8 11), (0, .nameAndType 5 12), (0, u "(III)V"), (0, .methodref 8 14), (0, .nameAndType 15 16), (0, u "none"), (0, u "()Z"), (0, .class_ 18), (0, u "tiercast/sim/FaultsNonePinLaw"), (2, u "law"), (0, u "(IIII)Z")] 7

def k1m0 : Method := { name := "<init>", desc := "()V", sig := { parameters := [], returnType := none }, accessFlags := 2, code := none }
def k1c1 : Code := { maxStack := 5, maxLocals := 9, code := code, exceptionTable := #[], attributes := #[] }
def k1m1 : Method := { name := "law", desc := "(IIII)Z", sig := { parameters := [.int, .int, .int, .int], returnType := some .boolean }, accessFlags := 9, code := some k1c1 }
/-- tiercast/sim/FaultsNonePinLaw -/
def k1 : Class := { plain "tiercast/sim/FaultsNonePinLaw" (some 0) with
  accessFlags := 49
  interfaces := #[]
  cf := some (fileOf pool1 17 #[] #[{ accessFlags := 2, nameIndex := 5, descriptorIndex := 6, attributes := #[] }, { accessFlags := 9, nameIndex := 21, descriptorIndex := 22, attributes := #[] }] 49 2 #[] #[])
  fields := #[]
  methods := #[k1m0, k1m1]
  instanceTypes := #[]
  staticTypes := #[]
  resolved := Array.replicate 30 none
  statics := none }

def pool2 : Array CpInfo := pool [(1, .methodref 2 3), (0, .class_ 4), (0, .nameAndType 5 6), (0, u "java/lang/Object"), (0, u "<init>"), (0, u "()V"), (0, .class_ 8), (0, u "java/lang/Record")] 13

def k2c0 : Code := { maxStack := 1, maxLocals := 1, code := jdk_30_method_1_code, exceptionTable := #[], attributes := #[] }
def k2m0 : Method := { name := "<init>", desc := "()V", sig := { parameters := [], returnType := none }, accessFlags := 4, code := some k2c0 }
/-- java/lang/Record -/
def k2 : Class := { plain "java/lang/Record" (some 0) with
  accessFlags := 1057
  interfaces := #[]
  cf := some (fileOf pool2 7 #[] #[{ accessFlags := 4, nameIndex := 5, descriptorIndex := 6, attributes := #[] }] 1057 2 #[] #[])
  fields := #[]
  methods := #[k2m0]
  instanceTypes := #[]
  staticTypes := #[]
  resolved := Array.replicate 22 none
  statics := none }

def pool3 : Array CpInfo := pool [(1, .methodref 2 3), (0, .class_ 4), (0, .nameAndType 5 6), (0, u "java/lang/Record"), (0, u "<init>"), (0, u "()V"), (0, .fieldref 8 9), (0, .class_ 10), (0, .nameAndType 11 12), (0, u "tiercast/sim/Joining$Faults"), (0, u "tablesDiffering"), (0, u "I"), (0, .fieldref 8 14), (0, .nameAndType 15 12), (0, u "successorsWrong"), (0, .fieldref 8 17), (0, .nameAndType 18 12), (0, u "predecessorsWrong"), (12, u "(III)V"), (3, u "none"), (0, u "()Z"), (7, .class_ 45), (0, u "tiercast/sim/Joining")] 21

def k3c0 : Code := { maxStack := 2, maxLocals := 4, code := prog_118_method_1_code, exceptionTable := #[], attributes := #[] }
def k3m0 : Method := { name := "<init>", desc := "(III)V", sig := { parameters := [.int, .int, .int], returnType := none }, accessFlags := 1, code := some k3c0 }
def k3c1 : Code := { maxStack := 2, maxLocals := 1, code := prog_118_method_2_code, exceptionTable := #[], attributes := #[] }
def k3m1 : Method := { name := "none", desc := "()Z", sig := { parameters := [], returnType := some .boolean }, accessFlags := 1, code := some k3c1 }
/-- tiercast/sim/Joining$Faults -/
def k3 : Class := { plain "tiercast/sim/Joining$Faults" (some 2) with
  accessFlags := 49
  interfaces := #[]
  cf := some (fileOf pool3 8 #[.nestHost 44] #[{ accessFlags := 1, nameIndex := 5, descriptorIndex := 31, attributes := #[] }, { accessFlags := 1, nameIndex := 35, descriptorIndex := 36, attributes := #[] }] 49 2 #[] #[{ accessFlags := 18, nameIndex := 11, descriptorIndex := 12, attributes := #[] }, { accessFlags := 18, nameIndex := 15, descriptorIndex := 12, attributes := #[] }, { accessFlags := 18, nameIndex := 18, descriptorIndex := 12, attributes := #[] }])
  fields := #[{ name := "tablesDiffering", type := .int, accessFlags := 18, slot := 0, constantValue := 0 }, { name := "successorsWrong", type := .int, accessFlags := 18, slot := 1, constantValue := 0 }, { name := "predecessorsWrong", type := .int, accessFlags := 18, slot := 2, constantValue := 0 }]
  methods := #[k3m0, k3m1]
  instanceTypes := #[.int, .int, .int]
  staticTypes := #[]
  resolved := Array.replicate 67 none
  statics := none }

def pool4 : Array CpInfo := pool [(1, u "java/lang/Cloneable"), (0, .class_ 1), (0, u "java/lang/Object"), (0, .class_ 3)] 3

/-- java/lang/Cloneable -/
def k4 : Class := { plain "java/lang/Cloneable" (some 0) with
  accessFlags := 1537
  interfaces := #[]
  cf := some (fileOf pool4 2 #[] #[] 1537 4 #[] #[])
  fields := #[]
  methods := #[]
  instanceTypes := #[]
  staticTypes := #[]
  resolved := Array.replicate 8 none
  statics := none }

def pool5 : Array CpInfo := pool [(1, u "java/io/Serializable"), (0, .class_ 1), (0, u "java/lang/Object"), (0, .class_ 3)] 3

/-- java/io/Serializable -/
def k5 : Class := { plain "java/io/Serializable" (some 0) with
  accessFlags := 1537
  interfaces := #[]
  cf := some (fileOf pool5 2 #[] #[] 1537 4 #[] #[])
  fields := #[]
  methods := #[]
  instanceTypes := #[]
  staticTypes := #[]
  resolved := Array.replicate 8 none
  statics := none }

/-- the primitive byte -/
def k6 : Class := { plain "byte" none with kind := .primitive 'B', accessFlags := 0x411 }
/-- [B -/
def k7 : Class := { plain "[B" (some 0) with kind := .array 6 .byte, interfaces := #[4, 5], accessFlags := 1041 }

/-- the primitive int -/
def k8 : Class := { plain "int" none with kind := .primitive 'I', accessFlags := 0x411 }
/-- [I -/
def k9 : Class := { plain "[I" (some 0) with kind := .array 8 .int, interfaces := #[4, 5], accessFlags := 1041 }

def heap : Heap := #[]
def classes : Array Class := #[k0, k1, k2, k3, k4, k5, k6, k7, k8, k9]
def interned : List (Array UInt16 × Addr) := []
def slotsUsed : Nat := 0
def theMethod : MethodId := ⟨1, 1⟩
def args0 : Array Value := #[.int 5, .int 3, .int 7, .int 1]
def aboutOver (below : List Frame) : State where
  vm := { classes := classes, interned := interned.toArray }
  heap := heap
  slotsUsed := slotsUsed
  threads := #[{ frames := .invoking theMethod args0 :: below }]
def below0 : List Frame := [.native { method := ⟨0, 0⟩, args := #[] }]
def about1 : State := aboutOver below0
def p0 : Program := .bare "" "" ""
def e0 : Env := launch0.env 0 0 0
theorem w_frames : about1.frames = Frame.invoking theMethod args0 :: below0 := rfl
set_option maxRecDepth 65536 in
theorem w_args : argsFit about1.vm theMethod args0 = true := by decide +kernel
set_option maxRecDepth 65536 in
theorem w_heap : heapFits about1 = true := by decide +kernel
set_option maxRecDepth 65536 in
theorem w_runnable : about1.curStatus? = some .runnable := by decide +kernel
set_option maxRecDepth 65536 in
theorem w_alone : about1.alone = true := by decide +kernel
set_option maxRecDepth 65536 in
theorem w_named : about1.methodNamed? x = some theMethod := by decide +kernel
set_option maxRecDepth 65536 in
theorem w_hears : about1.hears theMethod below0 = true := by decide +kernel
set_option maxRecDepth 65536 in
theorem w_ripe : about1.ripe theMethod args0 below0 = true := by decide +kernel
theorem w_running : about1.status = .running := rfl
set_option maxRecDepth 65536 in
theorem w_room : about1.hasRoom e0.platform room_1 = true :=
  launch0.hasRoom_least _ room_1 (by decide +kernel) (by decide +kernel) (by decide +kernel) (by decide +kernel) (by decide +kernel) (by decide +kernel)
theorem allAtoms_all (ts : List Jvm.Cond) (a : Array Jvm.Value) (st : Jvm.State) : (allAtoms ts).before a st = ts.all (fun c => c.before a st) := by
  induction ts with
  | nil => rfl
  | cons c t ih =>
    show (Jvm.Cond.and c (allAtoms t)).before a st = _
    rw [Jvm.Cond.before_and, ih, List.all_cons]
def words1 : List Jvm.Cond := Jvm.Cond.code x code maxLocals ret :: tables_1
/-- a 'code' word, met by the world's own term for the bytes: nothing is compared byte by byte -/
theorem code_word {y : MethodName} {bytes : ByteArray} {mx : Nat} {rt : Option FieldType} {a : Array Value} {s : State} {m : MethodId} {meth : Method} {c : Code} (h1 : s.methodNamed? y = some m) (h2 : s.vm.method? m = some meth) (h3 : meth.code = some c) (h4 : c.code = bytes)
    (h5 : (c.maxLocals == mx && c.exceptionTable.isEmpty && decide (c.maxStack ≤ mostOperands) && decide (meth.sig.returnType = rt) && !meth.locks && decide (parseMethodDescriptor y.desc = some meth.sig)) = true) : (Jvm.Cond.code y bytes mx rt).before a s = true := by
  simp only [Bool.and_eq_true, beq_iff_eq, Bool.not_eq_true', decide_eq_true_eq] at h5
  obtain ⟨⟨⟨⟨⟨g1, g2⟩, g3⟩, g4⟩, g5⟩, g6⟩ := h5
  simp [Cond.before, Cond.holds, Cond.value, h1, h2, h3, h4, g1, g2, g3, g4, g5, g6]
def isCode : Jvm.Cond → Bool
  | .code _ _ _ _ => true
  | _ => false
theorem all_split {L : List Jvm.Cond} {P : Jvm.Cond → Bool} (h1 : L.all (fun c => isCode c || P c) = true) (h2 : ∀ c ∈ L.filter isCode, P c = true) : L.all P = true := by
  refine List.all_eq_true.mpr fun c hc => ?_
  have h := List.all_eq_true.mp h1 c hc
  rcases Bool.eq_false_or_eq_true (isCode c) with hi | hi
  · exact h2 c (List.mem_filter.mpr ⟨hc, hi⟩)
  · simpa [hi] using h
set_option maxRecDepth 65536 in
theorem w_c0 : (Jvm.Cond.code x code maxLocals ret).before args0 about1 = true := code_word (m := ⟨1, 1⟩) (meth := k1m1) (c := k1c1) (by decide +kernel) rfl rfl rfl (by decide +kernel)
set_option maxRecDepth 65536 in
theorem w_c1 : (Jvm.Cond.code ({ cls := "tiercast/sim/Joining$Faults", name := "<init>", desc := "(III)V" } : Jvm.MethodName) prog_118_method_1_code (4 : Nat) (Option.none : Option Jvm.ClassFile.FieldType)).before args0 about1 = true := code_word (m := ⟨3, 0⟩) (meth := k3m0) (c := k3c0) (by decide +kernel) rfl rfl rfl (by decide +kernel)
set_option maxRecDepth 65536 in
theorem w_c2 : (Jvm.Cond.code ({ cls := "java/lang/Record", name := "<init>", desc := "()V" } : Jvm.MethodName) jdk_30_method_1_code (1 : Nat) (Option.none : Option Jvm.ClassFile.FieldType)).before args0 about1 = true := code_word (m := ⟨2, 0⟩) (meth := k2m0) (c := k2c0) (by decide +kernel) rfl rfl rfl (by decide +kernel)
set_option maxRecDepth 65536 in
theorem w_c3 : (Jvm.Cond.code ({ cls := "java/lang/Object", name := "<init>", desc := "()V" } : Jvm.MethodName) object_method_1_code (1 : Nat) (Option.none : Option Jvm.ClassFile.FieldType)).before args0 about1 = true := code_word (m := ⟨0, 0⟩) (meth := k0m0) (c := k0c0) (by decide +kernel) rfl rfl rfl (by decide +kernel)
set_option maxRecDepth 65536 in
theorem w_c4 : (Jvm.Cond.code ({ cls := "tiercast/sim/Joining$Faults", name := "none", desc := "()Z" } : Jvm.MethodName) prog_118_method_2_code (1 : Nat) (Option.some Jvm.ClassFile.FieldType.boolean)).before args0 about1 = true := code_word (m := ⟨3, 1⟩) (meth := k3m1) (c := k3c1) (by decide +kernel) rfl rfl rfl (by decide +kernel)
def codes1 : List Jvm.Cond := [Jvm.Cond.code x code maxLocals ret, Jvm.Cond.code ({ cls := "tiercast/sim/Joining$Faults", name := "<init>", desc := "(III)V" } : Jvm.MethodName) prog_118_method_1_code (4 : Nat) (Option.none : Option Jvm.ClassFile.FieldType), Jvm.Cond.code ({ cls := "java/lang/Record", name := "<init>", desc := "()V" } : Jvm.MethodName) jdk_30_method_1_code (1 : Nat) (Option.none : Option Jvm.ClassFile.FieldType), Jvm.Cond.code ({ cls := "java/lang/Object", name := "<init>", desc := "()V" } : Jvm.MethodName) object_method_1_code (1 : Nat) (Option.none : Option Jvm.ClassFile.FieldType), Jvm.Cond.code ({ cls := "tiercast/sim/Joining$Faults", name := "none", desc := "()Z" } : Jvm.MethodName) prog_118_method_2_code (1 : Nat) (Option.some Jvm.ClassFile.FieldType.boolean)]
set_option maxRecDepth 65536 in
theorem codes_eq : words1.filter isCode = codes1 := rfl
theorem w_codes : ∀ c ∈ words1.filter isCode, c.before args0 about1 = true := by
  rw [codes_eq]
  intro c hc
  simp only [codes1, List.mem_cons, List.not_mem_nil, or_false] at hc
  rcases hc with rfl | rfl | rfl | rfl | rfl
  · exact w_c0
  · exact w_c1
  · exact w_c2
  · exact w_c3
  · exact w_c4
set_option maxRecDepth 65536 in
theorem w_t1 : (words1.take 24).all (fun c => isCode c || c.before args0 about1) = true := by decide +kernel
set_option maxRecDepth 65536 in
theorem w_t2 : (words1.drop 24).all (fun c => isCode c || c.before args0 about1) = true := by decide +kernel
theorem w_tables : (allAtoms (Jvm.Cond.code x code maxLocals ret :: tables_1)).before args0 about1 = true := by
  rw [allAtoms_all]
  show words1.all (fun c => c.before args0 about1) = true
  refine all_split ?_ w_codes
  rw [← List.take_append_drop 24 words1, List.all_append, w_t1, w_t2]
  rfl
set_option maxRecDepth 65536 in
theorem w_case : (Jvm.Cond.and given_1 narrow_1).before args0 about1 = true := by decide +kernel
theorem w_applies : (headSpec (Jvm.Cond.code x code maxLocals ret :: tables_1) room_1).applies x e0.platform about1 = true :=
  (Spec.applies_iff w_frames).mpr ⟨w_running, w_runnable, w_alone, w_named, w_hears, w_ripe, w_room, w_tables⟩
theorem atStart : AtStart classFile x code maxLocals ret World_1 tables_1 room_1 Calls_1 rest_1 Pre_1 launch0 p0 e0 about1 theMethod args0 below0 :=
  ⟨lists_1, trivial, launch0.admits_env _ _ _, launch0.least_env, fairChoices_fair.cas, fairChoices_fair.clock, w_frames, w_args, w_heap, w_applies, trivial, trivial, w_case⟩
end start1
theorem witness_1 : WitnessClaimed_1 := ⟨start1.p0, start1.e0, start1.about1, start1.theMethod, start1.args0, start1.below0, start1.atStart⟩
end Jvm.Pilot.@@N@@
